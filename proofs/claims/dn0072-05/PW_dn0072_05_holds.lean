import PyProof.Rows.All
import Wide.All
import OpenK.AllK
import Wide.FinOn
import PySem.Challenge.RW_dn0072_05
set_option Elab.async false
set_option maxRecDepth 100000
set_option linter.all false
set_option maxHeartbeats 0
namespace Mine
open PySem PySem.W PyProof.Rows
theorem S5 {a b c : Nat} (h : a ≤ b) (k : b < c) : a < c := Nat.lt_of_le_of_lt h k
theorem S6 {a b c : Nat} (h : a < b) (k : b ≤ c) : a < c := Nat.lt_of_lt_of_le h k
theorem S7 {a b c : Nat} (h : a ≤ b) (k : b ≤ c) : a ≤ c := Nat.le_trans h k
theorem S8 {a b c : Nat} (h : a < b) (k : b < c) : a < c := Nat.lt_trans h k
theorem S9 {a b : Nat} (h : a = b) : a ≤ b := Nat.le_of_eq h
theorem Na {a b : Nat} (h : a < b) : a ≤ b := Nat.le_of_lt h
theorem Nb {a b c : Int} (h : a ≤ b) (k : b ≤ c) : a ≤ c := Int.le_trans h k
theorem Nc {α : Type} {l : List α} {i : Nat} (h : i < l.length) : l[i]? = some l[i] := List.getElem?_eq_getElem h
theorem Nd {α : Type} {l : List α} {i : Nat} {a : α} (h : l[i]? = some a) : a ∈ l := List.mem_of_getElem? h
theorem Nf {α : Type} {l : List α} {i : Nat} {a : α} (h : l[i]? = some a) : ∃ k : i < l.length, l[i] = a := List.getElem?_eq_some_iff.mp h
theorem Ng {α β : Type} {f : α → β} {l : List α} {b : β} (h : b ∈ l.map f) : ∃ a, a ∈ l ∧ f a = b := List.mem_map.mp h
theorem Nh {α : Type} {a : α} {l m : List α} (h : a ∈ l ++ m) : a ∈ l ∨ a ∈ m := List.mem_append.mp h
inductive An2 (p0 p1 : Prop) : Prop
 | mk (h0 : p0) (h1 : p1) : An2 p0 p1
inductive An3 (p0 p1 p2 : Prop) : Prop
 | mk (h0 : p0) (h1 : p1) (h2 : p2) : An3 p0 p1 p2
inductive An4 (p0 p1 p2 p3 : Prop) : Prop
 | mk (h0 : p0) (h1 : p1) (h2 : p2) (h3 : p3) : An4 p0 p1 p2 p3
inductive An5 (p0 p1 p2 p3 p4 : Prop) : Prop
 | mk (h0 : p0) (h1 : p1) (h2 : p2) (h3 : p3) (h4 : p4) : An5 p0 p1 p2 p3 p4
inductive An6 (p0 p1 p2 p3 p4 p5 : Prop) : Prop
 | mk (h0 : p0) (h1 : p1) (h2 : p2) (h3 : p3) (h4 : p4) (h5 : p5) : An6 p0 p1 p2 p3 p4 p5
inductive An7 (p0 p1 p2 p3 p4 p5 p6 : Prop) : Prop
 | mk (h0 : p0) (h1 : p1) (h2 : p2) (h3 : p3) (h4 : p4) (h5 : p5) (h6 : p6) : An7 p0 p1 p2 p3 p4 p5 p6
inductive An8 (p0 p1 p2 p3 p4 p5 p6 p7 : Prop) : Prop
 | mk (h0 : p0) (h1 : p1) (h2 : p2) (h3 : p3) (h4 : p4) (h5 : p5) (h6 : p6) (h7 : p7) : An8 p0 p1 p2 p3 p4 p5 p6 p7
inductive An11 (p0 p1 p2 p3 p4 p5 p6 p7 p8 p9 p10 : Prop) : Prop
 | mk (h0 : p0) (h1 : p1) (h2 : p2) (h3 : p3) (h4 : p4) (h5 : p5) (h6 : p6) (h7 : p7) (h8 : p8) (h9 : p9) (h10 : p10) : An11 p0 p1 p2 p3 p4 p5 p6 p7 p8 p9 p10
inductive Ex1 {α0 : Type}(P : α0→Prop) : Prop
 | mk (x0 : α0) (h : P x0) : Ex1 P
inductive Ex2 {α0 α1 : Type}(P : α0→α1→Prop) : Prop
 | mk (x0 : α0) (x1 : α1) (h : P x0 x1) : Ex2 P
inductive Ex3 {α0 α1 α2 : Type}(P : α0→α1→α2→Prop) : Prop
 | mk (x0 : α0) (x1 : α1) (x2 : α2) (h : P x0 x1 x2) : Ex3 P
inductive Ex4 {α0 α1 α2 α3 : Type}(P : α0→α1→α2→α3→Prop) : Prop
 | mk (x0 : α0) (x1 : α1) (x2 : α2) (x3 : α3) (h : P x0 x1 x2 x3) : Ex4 P
inductive Ex5 {α0 α1 α2 α3 α4 : Type}(P : α0→α1→α2→α3→α4→Prop) : Prop
 | mk (x0 : α0) (x1 : α1) (x2 : α2) (x3 : α3) (x4 : α4) (h : P x0 x1 x2 x3 x4) : Ex5 P
inductive Ex6 {α0 α1 α2 α3 α4 α5 : Type}(P : α0→α1→α2→α3→α4→α5→Prop) : Prop
 | mk (x0 : α0) (x1 : α1) (x2 : α2) (x3 : α3) (x4 : α4) (x5 : α5) (h : P x0 x1 x2 x3 x4 x5) : Ex6 P
inductive Ex7 {α0 α1 α2 α3 α4 α5 α6 : Type}(P : α0→α1→α2→α3→α4→α5→α6→Prop) : Prop
 | mk (x0 : α0) (x1 : α1) (x2 : α2) (x3 : α3) (x4 : α4) (x5 : α5) (x6 : α6) (h : P x0 x1 x2 x3 x4 x5 x6) : Ex7 P
inductive Ex8 {α0 α1 α2 α3 α4 α5 α6 α7 : Type}(P : α0→α1→α2→α3→α4→α5→α6→α7→Prop) : Prop
 | mk (x0 : α0) (x1 : α1) (x2 : α2) (x3 : α3) (x4 : α4) (x5 : α5) (x6 : α6) (x7 : α7) (h : P x0 x1 x2 x3 x4 x5 x6 x7) : Ex8 P
inductive Ex12 {α0 α1 α2 α3 α4 α5 α6 α7 α8 α9 α10 α11 : Type}(P : α0→α1→α2→α3→α4→α5→α6→α7→α8→α9→α10→α11→Prop) : Prop
 | mk (x0 : α0) (x1 : α1) (x2 : α2) (x3 : α3) (x4 : α4) (x5 : α5) (x6 : α6) (x7 : α7) (x8 : α8) (x9 : α9) (x10 : α10) (x11 : α11) (h : P x0 x1 x2 x3 x4 x5 x6 x7 x8 x9 x10 x11) : Ex12 P
def zq (a : Array Lean.Syntax) : Lean.Syntax:=.node .none `Lean.Parser.Tactic.tacticSeq #[.node .none `Lean.Parser.Tactic.tacticSeq1Indented #[.node .none `null a]]
def zr : Lean.Syntax:=.node .none `Lean.Parser.Tactic.tacticRfl #[(.atom .none "rfl")]
def zi : Lean.Syntax:=.node .none `Lean.Parser.Tactic.intro #[(.atom .none "intro"),(.node .none `null #[(.node .none `Lean.Parser.Term.hole #[(.atom .none "_")])])]
def zu : Lean.Syntax:=.node .none `Lean.Parser.Tactic.withUnfoldingAll #[.atom .none "with_unfolding_all",zq #[zr]]
def zR : Lean.Syntax:=zq #[zr]
def zI : Lean.Syntax:=zq #[zi,.atom .none ";",zr]
def zU : Lean.Syntax:=zq #[zu]
def zV : Lean.Syntax:=zq #[zi,.atom .none ";",zu]
theorem dk {p : Prop} [d : Decidable p] (h : decide p=true:=by kernel_rfl) : p:=of_decide_eq_true h
theorem q1 {a b c : Nat}(h : a < b) (k : b≤c) : a < c:=S6 h k
theorem q2 {a b c : Nat}(h : a≤b) (k : b < c) : a < c:=S5 h k
theorem q3 {a b c : Nat}(h : a < b) (k : b≤c) : a≤c:=S7 (Na h) k
theorem q4 {a b c : Nat}(h : a≤b) (k : b≤c) : a≤c:=S7 h k
theorem q5 {a b c d : Nat}(e : a=b) (h : b < c) (k : c≤d) : a < d:=e ▸ S6 h k
theorem q6 {a b c d : Nat}(e : a=b) (h : b≤c) (k : c < d) : a < d:=e ▸ S5 h k
theorem q7 {a b c d : Nat}(e : b=a) (h : b < c) (k : c≤d) : a < d:=e ▸ S6 h k
theorem q9 {a b c : Nat}(h : a < b) (e : c=b) : a < c:=e ▸ h
theorem r1 {a b c : Nat}(h : a < b) (e : b=c) : a < c:=e ▸ h
theorem r2 {a b c : Nat}(e : a=b) (h : b < c) : a < c:=e ▸ h
theorem r3 {a b c : Nat}(e : b=a) (h : b < c) : a < c:=e ▸ h
theorem r4 {a b c : Nat}(h : a < b) (k : b≤c) : a < c:=S6 h k
theorem r5 {a b c : Nat}(h : a≤b) (k : b < c) : a < c:=S5 h k
theorem r6 {a b c : Nat}(h : a≤b) (k : b≤c) : a≤c:=S7 h k
theorem r7 {a b : Nat}(h : a < b) : a≤b:=Na h
theorem r8 {a b : Nat}(h : ¬b < a) : a≤b:=Nat.le_of_not_lt h
theorem r9 {a b : Nat}(h : ¬b≤a) : a < b:=Nat.lt_of_not_le h
theorem s1 {a b c : Nat}(h : a≤b) (e : c=b) : a≤c:=e ▸ h
theorem s2 {a b c : Nat}(e : a=b) (h : b≤c) : a≤c:=e ▸ h
theorem s3 {a b c d : Nat}(h : a < b) (k : b < c) (l : c≤d) : a < d:=S6 (S8 h k) l
theorem s5 {a b c : Nat}(h : a + 1≤b) (k : c + 1≤a) : c < b:=S8 k h
theorem s9 {n k : Nat}(h : n < k) (l : k≤4611686018427387904) : (n : Int) < 2 ^ 62:=Int.ofNat_lt.mpr (S6 h l)
theorem t1 {n m k : Nat}(e : n=m) (h : m < k) (l : k≤4611686018427387904) : (n : Int) < 2 ^ 62:=Int.ofNat_lt.mpr (e ▸ S6 h l)
theorem t2 {n m k : Nat}(e : n=m) (h : m≤k) (l : k < 4611686018427387904) : (n : Int) < 2 ^ 62:=Int.ofNat_lt.mpr (e ▸ S5 h l)
theorem ya {a b c d : Nat}(h : a≤b) (k : b < c) (l : c≤d) : a < d:=S6 (S5 h k) l
theorem yb {m a i B : Nat}(h : m + (a - i + 1)≤B) (k : i < a) : m + (a - (i + 1) + 1) < B:=S6 (Nat.add_lt_add_left (Nat.lt_succ_of_le (S9 (Nat.sub_add_cancel (Nat.sub_pos_of_lt k)))) m) h
theorem yc {m a i B : Nat}(h : m + (a - i + 1) < B) (k : i < a) : m + (a - (i + 1) + 1) < B:=S8 (yb (Nat.le_refl _) k) h
theorem yd (n : Nat) : -2 ^ 62≤(n : Int):=Nb (by decide) (Int.natCast_nonneg n)
theorem ye {a b c : Nat}(h : a + b < c) : a < c:=S5 (Nat.le_add_right ..) h
theorem yh {u p x n B : Nat}(e : u=p) (l : p + x=n) (z : n < 800) (k : 800≤B) : u < B:=ya (e ▸ l ▸ Nat.le_add_right ..) z k
theorem yi {a p x n B : Nat}(e : a + 1=x + 1) (l : p + (x + 1)=n) (z : n < 800) (k : 800≤B) : a < B:=Nat.lt_of_succ_lt (ya (S7 (S9 e) (l ▸ Nat.le_add_left ..)) z k)
theorem yj {a B : Nat}(h : a < B) : ((a : Int) - 1).toNat < B:=S5 (S7 (S9 (Int.toNat_sub a 1)) (Nat.sub_le a 1)) h
theorem yk {i a : Nat}(h : i < ((a : Int) - 1).toNat) : i + 1 < a:=Nat.add_lt_of_lt_sub (Nat.lt_of_lt_of_eq h (Int.toNat_sub a 1))
theorem yl {N B : Nat}(h : N≤9) (k : 18 < B) : 2 * N < B:=S5 (Nat.mul_le_mul_left 2 h) k
theorem ym {x : Int}(h : 0≤x) (k : x < 2) : x=0∨x=1:=(Int.lt_or_eq_of_le (Int.le_of_lt_add_one (b:=1) k)).elim (fun q=>.inl (Int.le_antisymm (Int.le_of_lt_add_one (b:=0) q) h)) .inr
theorem yn {f : Int}(h : 0≤f∧f < 5) : 5 + f=((5 + f).toNat : Int)∧5≤(5 + f).toNat∧(5 + f).toNat≤9:=
 have z:=Int.add_nonneg (by decide : (0 : Int)≤5) h.1
 ⟨(Int.toNat_of_nonneg z).symm,(Int.le_toNat z).mpr (Int.le_add_of_nonneg_right h.1),Int.toNat_le.mpr (Int.add_le_add_left (Int.le_of_lt_add_one (b:=4) h.2) 5)⟩
theorem yo {a b : Nat}(h : b≤a) : 0≤(a : Int) - b:=Int.sub_nonneg_of_le (Int.ofNat_le.mpr h)
theorem yr {a b k : Nat}(e : a=b) : a < b + (k + 1):=e ▸ Nat.lt_add_of_pos_right k.succ_pos
theorem yf {a b c : Nat}(h : a + b≤c) : a≤c:=S7 (Nat.le_add_right ..) h
theorem yu {y : Int}{i p : Nat}(e : y=2 * (i : Int) + (p : Int)) (h : p < 2) : y / 2=i∧y % 2=p:=by
 subst e
 exact⟨congrArg Int.ofNat ((Nat.mul_add_div Nat.two_pos i p).trans (congrArg (i + ·) (Nat.div_eq_of_lt h))),congrArg Int.ofNat ((Nat.mul_add_mod ..).trans (Nat.mod_eq_of_lt h))⟩
theorem yv {x y h t z : Int}(e : t=z) (l : h≤t) (m : h=max x y) : t=max z y:=e.trans (Int.max_eq_left (Nb (Int.le_max_right x y) (m ▸ e ▸ l))).symm
theorem yx {x y h t z w : Int}(e : t=z) (l : h≤t) (m : h=max x y) (k : w≤x) : t=max w z:=e.trans (Int.max_eq_right (Nb k (Nb (Int.le_max_left x y) (m ▸ e ▸ l)))).symm
theorem yw {p f : Int}{a b : Nat}(h : p - f=a) (k : b + 1=a) : p - (f + 1)=b:=by rw[← Int.sub_sub,h,← k];exact Int.add_sub_cancel b 1
theorem xa (x : Int) : (2 * x + 0) / 2=x∧(2 * x + 0) % 2=0:=by rw[Int.add_zero];exact⟨Int.mul_ediv_cancel_left x (by decide),Int.mul_emod_right 2 x⟩
theorem xb (x : Int) : (2 * x + 1) / 2=x∧(2 * x + 1) % 2=1:=⟨(Int.mul_add_ediv_left x 1 (by decide)).trans (Int.add_zero x),(by rw[Int.add_comm];exact Int.add_mul_emod_self_left 1 2 x)⟩
theorem xc {n a : Nat}(h : a≤n) : n=a + (n - a):=(Nat.add_sub_of_le h).symm
theorem xd {a b : Nat}(e : a=b) (k m : Nat) : a + k + m - (b + k)=m:=e ▸ Nat.add_sub_cancel_left ..
theorem xe {a b c d : Nat}(h : a≤b + 1) (k : b≤c + d) : a≤c + (d + 1):=S7 h (Nat.succ_le_succ k)
theorem xf {a b c k : Nat}(e : a=b) (h : b≤c + k) (l : c + k < 600) : a < 600:=S5 (e ▸ h) l
theorem xg {i n j : Nat}(h : i < n) (k : n < 100) (l : j≤2) : 3 * i + j < 500:=S5 (Nat.add_le_add (Nat.mul_le_mul_left 3 (Na (S8 h k))) l) (by decide)
theorem xh {i n l : Nat}(e : l=2 * n) (h : i < n) : 2 * i < l:=e ▸ Nat.mul_lt_mul_of_pos_left h Nat.two_pos
theorem xi {i n l : Nat}(e : l=2 * n) (h : i < n) : 2 * i + 1 < l:=e ▸ Nat.mul_le_mul_left 2 (Nat.succ_le_of_lt h)
theorem xj {a b c d : Nat}(e : a=b) (h : b≤c) (k : c < d) : a < d:=S5 (S7 (S9 e) h) k
theorem xk {n : Nat}{k : Int}(h : k.toNat < n) : k < (n : Int):=Int.lt_of_le_of_lt (Int.self_le_toNat k) (Int.ofNat_lt.mpr h)
theorem xl {n : Nat}{k : Int}(h : k.toNat < n) (z : n < 2 ^ 63) : k < 2 ^ 63:=Int.lt_trans (xk h) (Int.ofNat_lt.mpr z)
theorem xm (a b : Int) : (if a < b then b - a else 0)=((b - a).toNat : Int) - ((0 : Nat) : Int):=by
 refine Eq.trans ?_ (Int.sub_zero _).symm
 split
 ·exact (Int.toNat_of_nonneg (Int.sub_nonneg_of_le (Int.le_of_lt (by assumption)))).symm
 ·exact (congrArg Int.ofNat (Int.toNat_of_nonpos (Int.sub_nonpos_of_le (Int.not_lt.mp (by assumption))))).symm
theorem xo {α β : Type}{a a' : List α}{b b' : List β}(h : (a ++ a').length=(b ++ b').length) (e : a.length=b.length) : a'.length=b'.length:=by
 rw[List.length_append,List.length_append,e] at h
 exact Nat.add_left_cancel h
theorem xq {u n k B : Nat}(h : k≤10) (b : u + 10 * (n + 1) < B) : u + k + 10 * n < B:=S5 (by rw[Nat.add_assoc,Nat.add_comm k];exact Nat.add_le_add_left (Nat.add_le_add_left h _) _) b
noncomputable def jst (s : Int × Int) (p : Int × Int) : Int × Int:=(s.1 + p.1,max (s.1 + p.1) s.2 + p.2)
noncomputable def jf (s : Int × Int) (l : List (Int × Int)) : Int:=(l.foldl jst s).2
theorem Xp (s : Int × Int) (p : Int × Int) (l : List (Int × Int)) : jf s (p :: l)=jf (jst s p) l:=rfl
theorem mx_mono {a b c d : Int}(h : a≤b) (k : c≤d) : max a c≤max b d:=Int.max_le.mpr ⟨Nb h (Int.le_max_left _ _),Nb k (Int.le_max_right _ _)⟩
theorem mx_le {a b c d : Int}(h : a + c≤d) (k : b + c≤d) : max a b + c≤d:=by
 rcases Int.le_total a b with q | q
 ·rw[Int.max_eq_right q];exact k
 ·rw[Int.max_eq_left q];exact h
theorem jf_mono : ∀ (l : List (Int × Int)) {a b b' : Int},b≤b'→jf (a,b) l≤jf (a,b') l
 | [],a,b,b',h=>h
 | p :: l,a,b,b',h=>by
  rw[Xp,Xp]
  exact jf_mono l (Int.add_le_add_right (mx_mono (Int.le_refl _) h) _)
noncomputable def jR (x y : Int × Int) : Prop:=min x.1 y.2≤min y.1 x.2
theorem jj {x1 x2 y1 y2 : Int}(h : min x1 y2≤min y1 x2) : x1≤y1∧x1≤x2∨y2≤y1∧y2≤x2:=
 (Int.le_total x1 y2).elim (fun q=>.inl (Int.le_min.mp (Int.min_eq_left q ▸ h))) fun q=>.inr (Int.le_min.mp (Int.min_eq_right q ▸ h))
theorem jj' {x1 x2 y1 y2 : Int}(h : x1≤y1∧x1≤x2∨y2≤y1∧y2≤x2) : min x1 y2≤min y1 x2:=
 h.elim (fun q=>Nb (Int.min_le_left ..) (Int.le_min.mpr q)) fun q=>Nb (Int.min_le_right ..) (Int.le_min.mpr q)
theorem jf_swap {s x y : Int × Int}(h : jR x y) (l : List (Int × Int)) : jf s (x :: y :: l)≤jf s (y :: x :: l):=by
 rw[Xp,Xp,Xp,Xp]
 obtain⟨a,b⟩:=s
 obtain⟨x1,x2⟩:=x
 obtain⟨y1,y2⟩:=y
 have h : x1≤y1∧x1≤x2∨y2≤y1∧y2≤x2:=jj h
 simp only[jst]
 rw[Int.add_right_comm a x1 y1]
 refine jf_mono l ?_
 have m1:=Int.add_le_add_right (Int.le_max_left (a + y1 + x1) (max (a + y1) b + y2)) x2
 have m2:=Int.add_le_add_right (Nb (Int.add_le_add_right (Int.le_max_left (a + y1) b) y2) (Int.le_max_right (a + y1 + x1) _)) x2
 have m3:=Int.add_le_add_right (Nb (Int.add_le_add_right (Int.le_max_right (a + y1) b) y2) (Int.le_max_right (a + y1 + x1) _)) x2
 revert m1 m2 m3
 generalize max (a + y1 + x1) (max (a + y1) b + y2) + x2=J
 intro m1 m2 m3
 refine mx_le ?_ ?_
 ·exact h.elim (fun q=>Nb (Int.add_le_add_right (Int.add_le_add_left q.2 (a + y1)) y2) (Nb (Int.le_of_eq (Int.add_right_comm ..)) m2)) fun q=>Nb (Int.add_le_add_left q.2 (a + y1 + x1)) m1
 ·rw[Int.add_assoc]
  refine mx_le ?_ ?_
  ·rw[← Int.add_assoc]
   exact h.elim (fun q=>Nb (Int.add_le_add_right (Int.add_le_add_right (Int.add_le_add_left q.1 a) x2) y2) (Nb (Int.le_of_eq (Int.add_right_comm ..)) m2)) fun q=>Nb (Int.add_le_add_left q.1 (a + x1 + x2)) (Nb (Int.le_of_eq (by rw[Int.add_right_comm,Int.add_right_comm a])) m1)
  ·rw[Int.add_comm x2,← Int.add_assoc];exact m3
theorem jf_move {x : Int × Int} : ∀ {u : List (Int × Int)}(v : List (Int × Int)) {s : Int × Int},(∀ y∈u,jR x y)→jf s (x :: (u ++ v))≤jf s (u ++ x :: v)
 | [],v,s,_=>Int.le_refl _
 | y :: u,v,s,h=>by
  refine Nb (jf_swap (h y (.head _)) (u ++ v)) ?_
  rw[Xp,List.cons_append,Xp]
  exact jf_move v fun z hz=>h z (.tail _ hz)
theorem Tl : ∀ {l l' : List (Int × Int)}{s : Int × Int},l.Pairwise jR→l'.Perm l→jf s l≤jf s l'
 | [],l',s,_,hp=>by rw[hp.eq_nil];exact Int.le_refl _
 | x :: t,l',s,hw,hp=>by
  have hx : x∈l':=hp.mem_iff.mpr (.head _)
  obtain⟨u,v,rfl⟩:=List.append_of_mem hx
  have h1 : (u ++ v).Perm t:=((List.perm_middle (l₁:=u) (l₂:=v) (a:=x)).symm.trans hp).cons_inv
  have hw':=List.pairwise_cons.mp hw
  refine Nb ?_ (jf_move v fun y hy=>hw'.1 y (h1.mem_iff.mp (List.mem_append_left _ hy)))
  rw[Xp,Xp]
  exact Tl hw'.2 h1
noncomputable def tmA (l : List (Int × Int)) (k : Nat) : Int:=((l.take (k + 1)).map (·.1)).sum + ((l.drop k).map (·.2)).sum
theorem tm_succ (p : Int × Int) (l : List (Int × Int)) (k : Nat) : tmA (p :: l) (k + 1)=p.1 + tmA l k:=by
 simp only[tmA,List.take_succ_cons,List.drop_succ_cons,List.map_cons,List.sum_cons,Int.add_assoc]
theorem tm_zero (p : Int × Int) (l : List (Int × Int)) : tmA (p :: l) 0=p.1 + (p.2 + (l.map (·.2)).sum):=by
 simp only[tmA,List.take_succ_cons,List.take_zero,List.drop_zero,List.map_cons,List.map_nil,List.sum_cons,List.sum_nil,Int.add_zero]
theorem jf_ge : ∀ (l : List (Int × Int)) (a b : Int),b + (l.map (·.2)).sum≤jf (a,b) l∧∀ k < l.length,a + tmA l k≤jf (a,b) l
 | [],a,b=>⟨by simp[jf],fun k h=>by simp at h⟩
 | p :: l,a,b=>by
  obtain⟨h1,h2⟩:=jf_ge l (a + p.1) (max (a + p.1) b + p.2)
  rw[Xp]
  show _≤jf (a + p.1,max (a + p.1) b + p.2) l∧_
  refine⟨by rw[List.map_cons,List.sum_cons,← Int.add_assoc];exact Nb (Int.add_le_add_right (Int.add_le_add_right (Int.le_max_right _ _) _) _) h1,fun k hk=>?_⟩
  match k with
  | 0 => rw [tm_zero, ← Int.add_assoc, ← Int.add_assoc]
         exact Nb (Int.add_le_add_right (Int.add_le_add_right (Int.le_max_left _ _) _) _) h1
  | k + 1 =>
   have:=h2 k (by simpa using hk)
   rw[tm_succ,← Int.add_assoc];exact this
theorem jf_at : ∀ (l : List (Int × Int)) (a b : Int),jf (a,b) l=b + (l.map (·.2)).sum∨∃ k < l.length,jf (a,b) l=a + tmA l k
 | [],a,b=>.inl (by simp[jf])
 | p :: l,a,b=>by
  rw[Xp]
  show jf (a + p.1,max (a + p.1) b + p.2) l=_∨∃ k < _,jf (a + p.1,max (a + p.1) b + p.2) l=_
  rcases jf_at l (a + p.1) (max (a + p.1) b + p.2) with h | ⟨k,hk,h⟩
  ·by_cases hm : a + p.1≤b
   ·exact .inl (by rw[h,List.map_cons,List.sum_cons,← Int.add_assoc,Int.max_eq_right hm])
   ·refine .inr ⟨0,by simp,?_⟩
    rw[h]
    rw[tm_zero,← Int.add_assoc,← Int.add_assoc,Int.max_eq_left (Int.le_of_lt (Int.not_le.mp hm))]
  ·refine .inr ⟨k + 1,by simpa using hk,?_⟩
   rw[h,tm_succ,Int.add_assoc]
theorem jf_max {l : List (Int × Int)}(hne : l≠[]) (hp : ∀ x∈l,0≤x.1) : (∀ k < l.length,tmA l k≤jf (0,0) l)∧∃ k < l.length,jf (0,0) l=tmA l k:=by
 refine⟨fun k hk=>Int.zero_add (tmA l k) ▸ (jf_ge l 0 0).2 k hk,?_⟩
 rcases jf_at l 0 0 with h | ⟨k,hk,h⟩
 ·cases l with
  | nil=>exact absurd rfl hne
  | cons p l =>
   refine⟨0,by simp,?_⟩
   have h1:=(jf_ge (p :: l) 0 0).2 0 (by simp)
   have h2:=hp p (.head _)
   rw[h] at h1 ⊢
   rw[tm_zero,List.map_cons,List.sum_cons] at h1 ⊢
   rw[Int.zero_add,Int.zero_add] at h1
   rw[Int.zero_add]
   exact Int.le_antisymm (Int.le_add_of_nonneg_left h2) h1
 ·exact⟨k,hk,by rw[h,Int.zero_add]⟩
theorem sum_rev (l : List Int) : l.reverse.sum=l.sum:=by
 induction l with
 | nil=>rfl
 | cons x l ih=>rw[List.reverse_cons,List.sum_append,ih,List.sum_cons,List.sum_cons,List.sum_nil,Int.add_zero,Int.add_comm]
noncomputable def sw (p : Int × Int) : Int × Int:=(p.2,p.1)
theorem T4 {l : List (Int × Int)}{k : Nat}(hk : k < l.length) : tmA (l.map sw).reverse k=tmA l (l.length - 1 - k):=by
 unfold tmA
 have e1 : (l.map sw).length=l.length:=by simp
 rw[List.take_reverse,List.drop_reverse,e1]
 rw[List.map_reverse,List.map_reverse,sum_rev,sum_rev]
 rw[← List.map_drop,← List.map_take,List.map_map,List.map_map]
 rw[show l.length - (k + 1)=l.length - 1 - k by rw[Nat.add_comm,Nat.sub_add_eq],show l.length - k=l.length - 1 - k + 1 by rw[Nat.sub_right_comm,Nat.sub_add_cancel (Nat.sub_pos_of_lt hk)]]
 have f1 : ((fun x=>x.1) ∘ sw)=fun x : Int × Int=>x.2:=rfl
 have f2 : ((fun x=>x.2) ∘ sw)=fun x : Int × Int=>x.1:=rfl
 rw[f1,f2,Int.add_comm]
theorem mir_lt {k n : Nat}(h : k < n) : n - 1 - k < n:=S5 (Nat.sub_le _ _) (Nat.sub_lt (Nat.zero_lt_of_lt h) Nat.one_pos)
theorem jf_mirror {l : List (Int × Int)}(hne : l≠[]) (hp : ∀ x∈l,0≤x.1∧0≤x.2) : jf (0,0) (l.map sw).reverse=jf (0,0) l:=by
 have hl : (l.map sw).reverse.length=l.length:=by simp
 have hne' : (l.map sw).reverse≠[]:=fun e=>hne (by
  have:=congrArg List.length e;rw[hl] at this;exact List.length_eq_zero_iff.mp this)
 obtain⟨a1,k1,b1,c1⟩:=jf_max hne fun x hx=>(hp x hx).1
 obtain⟨a2,k2,b2,c2⟩:=jf_max hne' fun x hx=>by
  rw[List.mem_reverse] at hx
  obtain⟨y,hy,rfl⟩:=Ng hx
  exact (hp y hy).2
 have h1 : jf (0,0) (l.map sw).reverse≤jf (0,0) l:=by
  have b2:=hl ▸ b2
  rw[c2,T4 b2]
  exact a1 _ (mir_lt b2)
 have h2 : jf (0,0) l≤jf (0,0) (l.map sw).reverse:=by
  rw[c1]
  have:=a2 (l.length - 1 - k1) (hl.symm ▸ mir_lt b1)
  rw[T4 (mir_lt b1),Nat.sub_sub_self (show k1≤l.length - 1 from Nat.le_pred_of_lt b1)] at this
  exact this
 exact Int.le_antisymm h1 h2
noncomputable def Vb (S i : Nat) : Bool:=S / 2 ^ i % 2 == 1
theorem My {i j : Nat}(h : j≤i) : (2 : Nat) ^ i=2 ^ j * 2 ^ (i - j):=by rw[← Nat.pow_add,Nat.add_sub_cancel' h]
theorem bit_ge {S i : Nat}(h : Vb S i=true) : 2 ^ i≤S:=by
 unfold Vb at h
 have h1 : S / 2 ^ i % 2=1:=by simpa using h
 have h2 : 1≤S / 2 ^ i:=Nat.pos_of_ne_zero fun e=>by rw[e] at h1;simp at h1
 exact (Nat.le_div_iff_mul_le (Nat.two_pow_pos i)).mp h2 |> fun h=>by simpa using h
theorem odd_pred {q : Nat}(h : (q + 1) % 2=1) : q % 2=0:=(Nat.mod_two_eq_zero_or_one q).elim id fun e=>by rw[Nat.add_mod,e] at h;cases h
theorem half_succ {q : Nat}(h : q % 2=0) : (q + 1) / 2=q / 2:=Nat.succ_div_of_not_dvd fun d=>by have:=Nat.mod_eq_zero_of_dvd d;rw[Nat.add_mod,h] at this;cases this
theorem pow_two {i j : Nat}(h : j < i) : (2 : Nat) ^ (i - j)=2 * 2 ^ (i - j - 1):=by rw[← Nat.pow_succ',Nat.succ_eq_add_one,Nat.sub_add_cancel (Nat.sub_pos_of_lt h)]
theorem mul_pred_div {p k : Nat}(hp : 0 < p) : (p * (k + 1) - 1) / p=k:=by
 rw[Nat.mul_succ,Nat.add_sub_assoc hp,Nat.mul_add_div hp,Nat.div_eq_of_lt (Nat.sub_lt hp Nat.one_pos),Nat.add_zero]
theorem bit_sub {S i j : Nat}(h : Vb S i=true) : Vb (S - 2 ^ i) j=(Vb S j && !decide (j=i)):=by
 have hge:=bit_ge h
 obtain⟨S',rfl⟩ : ∃ S',S=S' + 2 ^ i:=⟨S - 2 ^ i,(Nat.sub_add_cancel hge).symm⟩
 rw[Nat.add_sub_cancel]
 have hi : S' / 2 ^ i % 2=0:=by
  unfold Vb at h
  rw[Nat.add_div_right _ (Nat.two_pow_pos i)] at h
  exact odd_pred (by simpa using h)
 unfold Vb
 rcases Nat.lt_trichotomy j i with hj | hj | hj
 ·have e : (S' + 2 ^ i) / 2 ^ j=S' / 2 ^ j + 2 ^ (i - j):=by rw[My (Na hj),Nat.add_mul_div_left _ _ (Nat.two_pow_pos j)]
  rw[e]
  rw[pow_two hj,Nat.add_mul_mod_self_left,decide_eq_false (Nat.ne_of_lt hj),Bool.not_false,Bool.and_true]
 ·subst hj
  rw[hi];simp
 ·have e : (S' + 2 ^ i) / 2 ^ j=S' / 2 ^ j:=by
   rw[My (Na hj),← Nat.div_div_eq_div_mul,← Nat.div_div_eq_div_mul,Nat.add_div_right _ (Nat.two_pow_pos i)]
   rw[pow_two hj,← Nat.div_div_eq_div_mul,← Nat.div_div_eq_div_mul,half_succ hi]
  rw[e,decide_eq_false (Nat.ne_of_gt hj),Bool.not_false,Bool.and_true]
noncomputable def Yq (n S : Nat) : List Nat:=(List.range n).filter fun i=>Vb S i
theorem Xz {n S i : Nat} : i∈Yq n S ↔ i < n∧Vb S i=true:=by unfold Yq;simp
theorem bits_nd (n S : Nat) : (Yq n S).Nodup:=List.Nodup.sublist List.filter_sublist List.nodup_range
theorem perm_of_mem {l m : List Nat}(h1 : l.Nodup) (h2 : m.Nodup) (h : ∀ x,x∈l ↔ x∈m) : l.Perm m:=(List.perm_ext_iff_of_nodup h1 h2).mpr h
theorem bits_sub {n S i : Nat}(h : i∈Yq n S) : (i :: Yq n (S - 2 ^ i)).Perm (Yq n S):=by
 obtain⟨h1,h2⟩:=Xz.mp h
 refine perm_of_mem ?_ (bits_nd n S) fun x=>?_
 ·refine List.nodup_cons.mpr ⟨fun q=>?_,bits_nd _ _⟩
  have:=(Xz.mp q).2
  rw[bit_sub h2] at this;simp at this
 ·rw[List.mem_cons,Xz,Xz,bit_sub h2]
  by_cases hx : x=i
  ·subst hx;simp[h1,h2]
  ·simp[hx]
theorem bits_zero (n : Nat) : Yq n 0=[]:=by unfold Yq Vb;simp
theorem bits_full (n : Nat) : Yq n (2 ^ n - 1)=List.range n:=by
 unfold Yq
 rw[List.filter_eq_self]
 intro i hi
 have hi' : i < n:=List.mem_range.mp hi
 unfold Vb
 obtain⟨q,hq⟩ : ∃ q,(2 : Nat) ^ (n - i - 1)=q + 1:=⟨_,(Nat.succ_pred_eq_of_pos (Nat.two_pow_pos _)).symm⟩
 rw[My (Na hi'),pow_two hi',hq,show 2 * (q + 1)=2 * q + 1 + 1 from rfl,mul_pred_div (Nat.two_pow_pos i),Nat.mul_add_mod]
 rfl
structure LT (ps : List (Int × Int)) (n : Nat) (L : Nat→Int) (m : Nat) : Prop where
 z : L 0=0
 st : ∀ S < m,S≠0→(∃ i∈Yq n S,L S=max (((Yq n S).map fun i=>(ps.getD i (0,0)).1).sum) (L (S - 2 ^ i)) + (ps.getD i (0,0)).2) ∧
  ∀ i∈Yq n S,L S≤max (((Yq n S).map fun i=>(ps.getD i (0,0)).1).sum) (L (S - 2 ^ i)) + (ps.getD i (0,0)).2
noncomputable def jq (ps : List (Int × Int)) (o : List Nat) : List (Int × Int):=o.map fun i=>ps.getD i (0,0)
theorem jf_snoc (l : List (Int × Int)) (p : Int × Int) : jf (0,0) (l ++ [p])=max ((l.map (·.1)).sum + p.1) (jf (0,0) l) + p.2:=by
 have h : ∀ (l : List (Int × Int)) (s : Int × Int),(l.foldl jst s).1=s.1 + (l.map (·.1)).sum:=by
  intro l
  induction l with
  | nil=>intro s;simp
  | cons q l ih=>intro s;rw[List.foldl_cons,ih,List.map_cons,List.sum_cons];exact Int.add_assoc _ _ _
 unfold jf
 rw[List.foldl_append]
 simp only[List.foldl_cons,List.foldl_nil,jst]
 rw[h];simp only[Int.zero_add]
theorem sum_perm {l m : List Int}(h : l.Perm m) : l.sum=m.sum:=by
 induction h with
 | nil=>rfl
 | cons x _ ih=>simp[ih]
 | swap x y l=>rw[List.sum_cons,List.sum_cons,List.sum_cons,List.sum_cons,Int.add_left_comm]
 | trans _ _ a b=>exact a.trans b
theorem LT.spec {ps : List (Int × Int)}{n m : Nat}{L : Nat→Int}(T : LT ps n L m) : ∀ S < m,(∃ o : List Nat,o.Perm (Yq n S)∧L S=jf (0,0) (jq ps o))∧∀ o : List Nat,o.Perm (Yq n S)→L S≤jf (0,0) (jq ps o):=by
 intro S
 induction S using Nat.strongRecOn with
 | ind S ih =>
  intro hS
  by_cases h0 : S=0
  ·subst h0
   rw[bits_zero,T.z]
   refine⟨⟨[],.refl _,rfl⟩,fun o ho=>?_⟩
   rw[ho.eq_nil];exact Int.le_refl _
  ·obtain⟨⟨i,hi,e⟩,hle⟩:=T.st S hS h0
   have hpos : ∀ i,0 < 2 ^ i:=Nat.two_pow_pos
   have hlt : ∀ i,i∈Yq n S→S - 2 ^ i < S:=fun i hi=>Nat.sub_lt (S6 (hpos i) (bit_ge (Xz.mp hi).2)) (hpos i)
   have key : ∀ (o : List Nat) (i : Nat),i∈Yq n S→o.Perm (Yq n (S - 2 ^ i))→jf (0,0) (jq ps (o ++ [i]))=max (((Yq n S).map fun i=>(ps.getD i (0,0)).1).sum) (jf (0,0) (jq ps o)) + (ps.getD i (0,0)).2:=fun o i hi ho=>by
    unfold jq
    rw[List.map_append,List.map_cons,List.map_nil,jf_snoc]
    have hs : ((o.map fun i=>ps.getD i (0,0)).map (·.1)).sum + (ps.getD i (0,0)).1=((Yq n S).map fun i=>(ps.getD i (0,0)).1).sum:=by
     rw[List.map_map]
     have h1:=sum_perm ((((List.Perm.cons i ho).trans (bits_sub hi))).map fun i=>(ps.getD i (0,0)).1)
     rw[← h1,List.map_cons,List.sum_cons]
     exact Int.add_comm _ _
    rw[hs]
   refine⟨?_,fun o ho=>?_⟩
   ·obtain⟨⟨o,ho,eo⟩,o_⟩:=ih _ (hlt i hi) (S8 (hlt i hi) hS)
    refine⟨o ++ [i],?_,?_⟩
    ·exact (List.perm_append_singleton i o).trans ((List.Perm.cons i ho).trans (bits_sub hi))
    ·rw[key o i hi ho,e,eo]
   ·have hne : o≠[]:=fun q=>by
     subst q
     have:=ho.symm.eq_nil
     rw[this] at hi;cases hi
    obtain⟨o',j,rfl⟩ : ∃ o' j,o=o' ++ [j]:=⟨o.dropLast,o.getLast hne,(List.dropLast_concat_getLast hne).symm⟩
    have hj : j∈Yq n S:=ho.mem_iff.mp (by simp)
    have ho' : o'.Perm (Yq n (S - 2 ^ j)):=((List.perm_append_singleton j o').symm.trans (ho.trans (bits_sub hj).symm)).cons_inv
    rw[key o' j hj ho']
    have h1:=hle j hj
    exact Nb h1 (Int.add_le_add_right (mx_mono (Int.le_refl _) ((ih _ (hlt j hj) (S8 (hlt j hj) hS)).2 o' ho')) _)
theorem LT.full {ps : List (Int × Int)}{n : Nat}{L : Nat→Int}(T : LT ps n L (2 ^ n)) {o : List Nat}(ho : o.Perm (List.range n)) (hw : (jq ps o).Pairwise jR) : L (2 ^ n - 1)=jf (0,0) (jq ps o):=by
 have hp:=Nat.two_pow_pos n
 obtain⟨⟨o',h1,h2⟩,h3⟩:=T.spec (2 ^ n - 1) (Nat.sub_lt hp Nat.one_pos)
 rw[bits_full] at h1 h3
 have h4:=h3 o ho
 have h5:=Tl (s:=(0,0)) hw (show (jq ps o').Perm (jq ps o) from (h1.trans ho.symm).map _)
 exact Int.le_antisymm h4 (h2 ▸ h5)
noncomputable abbrev prg : Program:=PySem.Challenge.pw_dn0072_05
theorem through_end (t : Thread) : through t=(endAt 0 t).isSome:=by
 obtain⟨cur,code,pos,stack⟩:=t
 cases stack with
 | cons x y=>rfl
 | nil=>cases cur with
  | pure a=>cases a <;> rfl
  | _=>rfl
theorem topRun_of_seg {tb : String→Option Builtin}{p : Program}{w : World}{n0 : Nat}{ann : Option Value}{n : Nat}{s s' : Shared}{t : Thread}{f : Flow}{c : Code}{q : Pos}
 (h : segRun tb p w n0 ann 0 n s t=some (f,s',c,q)) : topRun tb p w n0 ann n s t=some s':=by
 induction n generalizing s t with
 | zero=>cases h
 | succ n ih =>
  unfold segRun at h
  unfold topRun
  rw[through_end]
  generalize endAt 0 t=e at h ⊢
  cases e with
  | some f'=>exact congrArg (Option.map fun x : Flow × Shared × Code × Pos=>x.2.1) h
  | none =>
   generalize stepOk n0 ann t=k at h ⊢
   cases k with
   | false=>cases h
   | true =>
    generalize step (denote tb) p w s t=r at h ⊢
    cases r with
    | halt o s2=>cases h
    | go s2 t2=>exact ih h
noncomputable def btOf : List Obj→Nat→BT→BT
 | [],_,t=>t
 | o :: l,i,t=>btOf l (i + 1) (t.ins i o)
noncomputable def btOk : List Obj→Nat→BT→Bool
 | [],_,_=>true
 | o :: l,i,t=>((t.ins i o).get i).isSome && btOk l (i + 1) (t.ins i o)
theorem btOf_abs {life : Life}(l : List Obj) (i : Nat) (t : BT) (h : btOk l i t=true) :
 absHeap (btOf l i t) (i + l.length) life=⟨(absHeap t i life).objs ++ l.toArray,life⟩:=by
 induction l generalizing i t with
 | nil=>simp[btOf,absHeap]
 | cons o l ih =>
  obtain⟨h1,h2⟩:=Bool.and_eq_true_iff.mp h
  have:=ih (i + 1) (t.ins i o) h2
  rw[absHeap_ins h1] at this
  simp only[btOf,List.length_cons]
  rw[← Nat.add_assoc,Nat.add_right_comm,this]
  cases hh : absHeap t i life
  simp[Heap.push]
noncomputable def toT (s : Shared) : SharedT:=⟨btOf s.heap.objs.toList 0 .nil,s.heap.objs.size,s.heap.life,s.gens,s.drawn,s.toks,s.os⟩
theorem toT_abs {s : Shared}(h : btOk s.heap.objs.toList 0 .nil=true) : (toT s).abs=s:=by
 obtain⟨⟨objs,life⟩,gens,drawn,toks,os⟩:=s
 have:=btOf_abs (life:=life) objs.toList 0 .nil h
 unfold toT SharedT.abs
 dsimp only at this ⊢
 rw[Nat.zero_add,Array.length_toList] at this
 rw[this]
 simp[absHeap,BT.list]
noncomputable def okAt (p : Program) (m0 : Nat) (ann : Option Value) (s0 s1 : Shared) : Bool:=
 btOk s0.heap.objs.toList 0 .nil && (s0.heap.isNs mainGlobals && s0.gens.size == 0) && s0.heap.objs.size == m0 && decide (s0.heap.nsMap mainGlobals "__annotations__"=ann) &&
 (staticsOk (importedModules p.main.body) s0.heap s1.heap && namesBound p s1.heap && gensDone s1 && laidKept s0.heap s1.heap)
theorem leftO_of {p q : Program}{loose : List Str}{Xt : Shared→Bool}{α : Type}{Yf : Shared→α}{Ya : World→α}{N : Nat}(m0 : Nat) (ann : Option Value)
 (h : ∀ w,((importEnds treeTable (opening p) w N (start (opening p)).1 (start (opening p)).2).bind fun s=>(fenceModules? p s).bind fun s0 =>
  (segRunT treeTable p w m0 ann 0 N (toT s0) (topStub p)).bind fun r =>
   match okAt p m0 ann s0 r.2.1.abs with
   | true=>some (openSeen q loose (importedModules p.main.body) Xt true r.2.1.abs,Yf r.2.1.abs)
   | false=>none)=some (openGood q loose,Ya w)) : LeftO p q loose Xt Yf Ya N:=fun w=>by
 have h:=h w
 obtain⟨s,h1,h⟩:=Option.bind_eq_some_iff.mp h
 obtain⟨s0,h2,h⟩:=Option.bind_eq_some_iff.mp h
 obtain⟨⟨f,sT,c,qq⟩,h3,h⟩:=Option.bind_eq_some_iff.mp h
 dsimp only at h
 cases hk : okAt p m0 ann s0 sT.abs with
 | false=>rw[hk] at h;cases h
 | true =>
  rw[hk] at h
  unfold okAt at hk
  obtain⟨hk,k5⟩:=Bool.and_eq_true_iff.mp hk
  obtain⟨hk,k4⟩:=Bool.and_eq_true_iff.mp hk
  obtain⟨hk,k3⟩:=Bool.and_eq_true_iff.mp hk
  obtain⟨k1,k2⟩:=Bool.and_eq_true_iff.mp hk
  have e3 : s0.heap.objs.size=m0:=by simpa using k3
  have e4:=of_decide_eq_true k4
  have run:=topRun_of_seg (segRun_of h3)
  rw[toT_abs k1] at run
  have : openEnds treeTable p w N=some sT.abs:=by
   unfold openEnds fencedOpening
   rw[h1,Option.bind_some,h2,Option.bind_some]
   unfold topFrom
   rw[k2]
   dsimp only
   rw[e3,e4,run,Option.bind_some,k5]
  rw[this,Option.map_some]
  exact h
theorem said : PySem.Challenge.rw_dn0072_05.wellSaid=true:=by
 rw[PySem.W.Fast.te9446332074065402090]
 kernel_rfl
noncomputable def q37 : Program:={ prg with main:={ prg.main with body:=(prg.main.body[37]?).toList } }
noncomputable def loose37 : List PySem.Str:=["deque","_wall","heappush","heappop","_siftdown","_siftup","_NODE_OUT","_NODE_DONE","_NodeInfo","CycleError","TopologicalSorter","_whence","_index","UnsupportedOperation","IOBase","BufferedIOBase","TextIOBase","BytesIO","StringIO","_kind","_fspath","_check_arg_types","isabs","join","dirname","shlex","split","_law_rows","_law_emptied","_law_order","_law_clock"]
noncomputable def st (i : Nat) : Stmt:=(prg.main.body[i]?).getD default
noncomputable def me (i j : Nat) : Stmt:=match st i with
 | .ClassDef _ _ _ b _ _ _ _ _ _ _=>(b[j]?).getD default
 | _=>default
noncomputable def fnA : Stmt→Arguments
 | .FunctionDef _ a _ _ _ _ _ _ _ _=>a
 | _=>default
noncomputable def fnB : Stmt→List Stmt
 | .FunctionDef _ _ b _ _ _ _ _ _ _=>b
 | _=>[]
noncomputable def fnS : Stmt→Scope
 | .FunctionDef _ _ _ _ _ _ s _ _ _=>s
 | _=>default
noncomputable def fnN : Stmt→PySem.Str
 | .FunctionDef n _ _ _ _ _ _ _ _ _=>n
 | _=>default
noncomputable def fn (s : Stmt) (qual : PySem.Str) (dflt pm code : Value) : Obj:=
 ⟨.type "function",none,.func { name:=fnN s,qualname:=qual,params:=fnA s,body:=.stmts (fnB s),scope:=fnS s,globals:=3,closure:=[],defaults:=dflt,kwdefaults:=.none,pyModule:=pm,code:=code },#[]⟩
noncomputable abbrev en (P : Params) (k : PySem.Str) (t : Tok) (v : Value) : DictEntry:=⟨PyData.keyHash P k,.str k t,v⟩
noncomputable def cdO (n q : PySem.Str) (t : Nat) (l a b d f : Int) (r s : Nat) (x y z : Value) (u : Nat) : Obj:=⟨(.type "code"),none,(.fields #[.str n t,.str q (t + 1),.str "/claim/cut.py" (t + 2),.int l 0,.int a 0,.int b 0,.int d 0,.int f 0,.ref r,.bool true,.int 273 0,.ref s,.none,x,y,z,.int u 0,.int l 0,.str "/claim/cut.py" (u + 1)]),#[]⟩
noncomputable def o2 (P : Params) : Obj:=⟨.none,none,(.dict #[en P "\x69mport.loaded._collections" 185 (.bool true),en P "class._frozen_importlib.BuiltinImporter" 187 (.ref 15),en P "watched.\x69mport" 208 (.ref 19),en P "class._frozen_importlib.ModuleSpec" 218 (.ref 23),en P "sys.modules.booked-epoch" 247 (.int (3) 0),en P "sys.modules.landed._collections" 248 (.bool true),en P "\x69mport.later-laid._collections" 263 (.bool true),en P "watched.library" 265 (.ref 28),en P "watched.library-objects" 0 (.str ⟨#[13]⟩ 0),en P "watched.library-deep._collections" 266 (.str ⟨#[4,0,0,12,4,0,0,12,4,0,0,3,4,0,0,12,8,4,100,105,99,116,2]⟩ 0),en P "type.__subclasses__.OSError.0" 548 (.int (211) 0),en P "type.__subclasses__.OSError.n" 549 (.int (1) 0)] 12),#[]⟩
noncomputable def o3 (P : Params) : Obj:=⟨(.type "dict"),none,(.dict #[en P "__name__" 165 (.str "law_dn0072_05" 1378),en P "__doc__" 166 .none,en P "__package__" 167 .none,en P "__loader__" 168 (.builtin "__main__.__loader__#opaque"),en P "__spec__" 169 .none,en P "__annotations__" 170 (.ref 6),en P "__builtins__" 171 (.ref 4),en P "__file__" 173 (.str "/claim/cut.py" 172),en P "__cached__" 174 .none,en P "deque" 272 (.type "collections.deque"),en P "_wall" 285 (.ref 39),en P "heappush" 295 (.ref 46),en P "heappop" 304 (.ref 53),en P "_siftdown" 316 (.ref 60),en P "_siftup" 329 (.ref 67),en P "_NODE_OUT" 334 (.int (-1) 333),en P "_NODE_DONE" 337 (.int (-2) 336),en P "_NodeInfo" 374 (.ref 86),en P "CycleError" 392 (.ref 101),en P "TopologicalSorter" 511 (.ref 183),en P "_whence" 521 (.ref 194),en P "_index" 529 (.ref 201),en P "UnsupportedOperation" 551 (.ref 211),en P "IOBase" 583 (.ref 231),en P "BufferedIOBase" 601 (.ref 246),en P "TextIOBase" 619 (.ref 258),en P "BytesIO" 881 (.ref 488),en P "StringIO" 1168 (.ref 735),en P "_kind" 1179 (.ref 744),en P "_fspath" 1188 (.ref 751),en P "_check_arg_types" 1198 (.ref 758),en P "isabs" 1205 (.ref 765),en P "join" 1216 (.ref 772),en P "dirname" 1226 (.ref 779),en P "shlex" 1367 (.ref 870),en P "split" 1377 (.ref 882),en P "_law_rows" 1385 (.ref 887),en P "_law_emptied" 1391 (.ref 892),en P "_law_order" 1401 (.ref 899),en P "_law_clock" 1407 (.ref 904),en P "law" 1413 (.ref 909)] 41),#[]⟩
noncomputable def o45 (_ : Params) : Obj:=cdO "heappush" "heappush" 288 6 2 0 0 3 40 41 (.ref 42) (.ref 43) (.ref 44) 293
noncomputable def o46 (_ : Params) : Obj:=fn (st 3) "heappush" .none (.str "cpy313.heapq" 286) (.ref 45)
noncomputable def o52 (_ : Params) : Obj:=cdO "heappop" "heappop" 296 9 1 0 0 3 47 48 (.ref 49) (.ref 50) (.ref 51) 302
noncomputable def o53 (_ : Params) : Obj:=fn (st 4) "heappop" .none (.str "cpy313.heapq" 286) (.ref 52)
noncomputable def o59 (_ : Params) : Obj:=cdO "_siftdown" "_siftdown" 305 17 3 0 0 3 54 55 (.ref 56) (.ref 57) (.ref 58) 314
noncomputable def o60 (_ : Params) : Obj:=fn (st 5) "_siftdown" .none (.str "cpy313.heapq" 286) (.ref 59)
noncomputable def o66 (_ : Params) : Obj:=cdO "_siftup" "_siftup" 317 28 2 0 0 3 61 62 (.ref 63) (.ref 64) (.ref 65) 327
noncomputable def o67 (_ : Params) : Obj:=fn (st 6) "_siftup" .none (.str "cpy313.heapq" 286) (.ref 66)
noncomputable def o81 (_ : Params) : Obj:=cdO "__init__" "_NodeInfo.__init__" 354 48 2 0 0 3 76 77 (.ref 78) (.ref 79) (.ref 80) 359
noncomputable def o82 (_ : Params) : Obj:=fn (me 10 1) "_NodeInfo.__init__" .none (.str "cpy313.graphlib" 330) (.ref 81)
noncomputable def o85 (P : Params) : Obj:=⟨(.type "dict"),none,(.dict #[en P "__module__" 345 (.str "cpy313.graphlib" 330),en P "__firstlineno__" 349 (.int (45) 348),en P "__slots__" 353 (.ref 75),en P "__init__" 361 (.ref 82),en P "__static_attributes__" 365 (.ref 83),en P "node" 367 (.ref 87),en P "npredecessors" 369 (.ref 88),en P "successors" 371 (.ref 89),en P "__doc__" 372 .none] 5),#[]⟩
noncomputable def o86 (_ : Params) : Obj:=⟨(.type "type"),none,(.cls { name:="_NodeInfo",bases:=[(.type "object")],mro:=[(.ref 86),(.type "object")],ns:=85,qualname:="_NodeInfo",hasDict:=false,slotNames:=["node","npredecessors","successors"],subclasses:=[],abstract:=false,hasDel:=false }),#[none,none,(some (.str "_NodeInfo" 338)),(some (.str "_NodeInfo" 346)),(some (.builtin "object.__new__")),(some (.bool false))]⟩
noncomputable def o87 (_ : Params) : Obj:=⟨(.type "member_descriptor"),none,(.fields #[(.str "node" 366),(.ref 86),(.builtin "proto.slot"),(.builtin "proto.slot#set"),(.int (2) 0)]),#[]⟩
noncomputable def o88 (_ : Params) : Obj:=⟨(.type "member_descriptor"),none,(.fields #[(.str "npredecessors" 368),(.ref 86),(.builtin "proto.slot"),(.builtin "proto.slot#set"),(.int (1) 0)]),#[]⟩
noncomputable def o89 (_ : Params) : Obj:=⟨(.type "member_descriptor"),none,(.fields #[(.str "successors" 370),(.ref 86),(.builtin "proto.slot"),(.builtin "proto.slot#set"),(.int (0) 0)]),#[]⟩
noncomputable def o112 (_ : Params) : Obj:=⟨(.type "tuple"),none,(.seq #[.none] 0),#[]⟩
noncomputable def o118 (_ : Params) : Obj:=cdO "__init__" "TopologicalSorter.__init__" 405 56 2 0 0 3 113 114 (.ref 115) (.ref 116) (.ref 117) 412
noncomputable def o119 (_ : Params) : Obj:=fn (me 12 0) "TopologicalSorter.__init__" (.ref 112) (.str "cpy313.graphlib" 330) (.ref 118)
noncomputable def o125 (_ : Params) : Obj:=cdO "_get_nodeinfo" "TopologicalSorter._get_nodeinfo" 415 65 2 0 0 3 120 121 (.ref 122) (.ref 123) (.ref 124) 421
noncomputable def o126 (_ : Params) : Obj:=fn (me 12 1) "TopologicalSorter._get_nodeinfo" .none (.str "cpy313.graphlib" 330) (.ref 125)
noncomputable def o132 (_ : Params) : Obj:=cdO "add" "TopologicalSorter.add" 424 70 2 0 0 7 127 128 (.ref 129) (.ref 130) (.ref 131) 433
noncomputable def o133 (_ : Params) : Obj:=fn (me 12 2) "TopologicalSorter.add" .none (.str "cpy313.graphlib" 330) (.ref 132)
noncomputable def o137 (_ : Params) : Obj:=cdO "prepare" "TopologicalSorter.prepare" 436 79 1 0 0 3 134 135 .none .none (.ref 136) 439
noncomputable def o138 (_ : Params) : Obj:=fn (me 12 3) "TopologicalSorter.prepare" .none (.str "cpy313.graphlib" 330) (.ref 137)
noncomputable def o144 (_ : Params) : Obj:=cdO "get_ready" "TopologicalSorter.get_ready" 442 87 1 0 0 3 139 140 (.ref 141) (.ref 142) (.ref 143) 449
noncomputable def o145 (_ : Params) : Obj:=fn (me 12 4) "TopologicalSorter.get_ready" .none (.str "cpy313.graphlib" 330) (.ref 144)
noncomputable def o151 (_ : Params) : Obj:=cdO "is_active" "TopologicalSorter.is_active" 452 98 1 0 0 3 146 147 (.ref 148) (.ref 149) (.ref 150) 456
noncomputable def o152 (_ : Params) : Obj:=fn (me 12 5) "TopologicalSorter.is_active" .none (.str "cpy313.graphlib" 330) (.ref 151)
noncomputable def o165 (_ : Params) : Obj:=cdO "done" "TopologicalSorter.done" 466 106 1 0 0 7 160 161 (.ref 162) (.ref 163) (.ref 164) 477
noncomputable def o166 (_ : Params) : Obj:=fn (me 12 7) "TopologicalSorter.done" .none (.str "cpy313.graphlib" 330) (.ref 165)
noncomputable def o172 (_ : Params) : Obj:=cdO "_find_cycle" "TopologicalSorter._find_cycle" 480 129 1 0 0 3 167 168 (.ref 169) (.ref 170) (.ref 171) 490
noncomputable def o173 (_ : Params) : Obj:=fn (me 12 8) "TopologicalSorter._find_cycle" .none (.str "cpy313.graphlib" 330) (.ref 172)
noncomputable def o182 (P : Params) : Obj:=⟨(.type "dict"),none,(.dict #[en P "__module__" 400 (.str "cpy313.graphlib" 330),en P "__firstlineno__" 404 (.int (54) 403),en P "__init__" 414 (.ref 119),en P "_get_nodeinfo" 423 (.ref 126),en P "add" 435 (.ref 133),en P "prepare" 441 (.ref 138),en P "get_ready" 451 (.ref 145),en P "is_active" 458 (.ref 152),en P "__bool__" 465 (.ref 159),en P "done" 479 (.ref 166),en P "_find_cycle" 492 (.ref 173),en P "static_order" 499 (.ref 180),en P "__static_attributes__" 504 (.ref 181),en P "__dict__" 506 (.ref 184),en P "__weakref__" 508 (.ref 185),en P "__doc__" 509 .none] 4),#[]⟩
noncomputable def o183 (_ : Params) : Obj:=⟨(.type "type"),none,(.cls { name:="TopologicalSorter",bases:=[(.type "object")],mro:=[(.ref 183),(.type "object")],ns:=182,qualname:="TopologicalSorter",hasDict:=true,slotNames:=[],subclasses:=[],abstract:=false,hasDel:=false }),#[none,none,(some (.str "TopologicalSorter" 393)),(some (.str "TopologicalSorter" 401)),(some (.builtin "object.__new__")),(some (.bool true))]⟩
noncomputable def o200 (_ : Params) : Obj:=cdO "_index" "_index" 522 166 2 0 0 3 195 196 (.ref 197) (.ref 198) (.ref 199) 527
noncomputable def o201 (_ : Params) : Obj:=fn (st 15) "_index" .none (.str "io" 512) (.ref 200)
noncomputable def o227 (_ : Params) : Obj:=cdO "__new__" "IOBase.__new__" 566 178 1 1 0 15 222 223 (.ref 224) (.ref 225) (.ref 226) 572
noncomputable def o228 (_ : Params) : Obj:=fn (me 17 1) "IOBase.__new__" .none (.str "io" 512) (.ref 227)
noncomputable def o230 (P : Params) : Obj:=⟨(.type "dict"),none,(.dict #[en P "__module__" 559 (.str "io" 564),en P "__firstlineno__" 563 (.int (175) 562),en P "__new__" 574 (.ref 232),en P "__static_attributes__" 575 (.ref 229),en P "__dict__" 578 (.ref 233),en P "__weakref__" 580 (.ref 234),en P "__doc__" 581 .none] 4),#[]⟩
noncomputable def o231 (_ : Params) : Obj:=⟨(.type "type"),none,(.cls { name:="IOBase",bases:=[(.type "object")],mro:=[(.ref 231),(.type "object")],ns:=230,qualname:="IOBase",hasDict:=true,slotNames:=[],subclasses:=[(.ref 246),(.ref 258)],abstract:=false,hasDel:=false }),#[none,none,(some (.str "IOBase" 552)),(some (.str "IOBase" 560)),(some .none),(some (.bool true))]⟩
noncomputable def o232 (_ : Params) : Obj:=⟨(.type "staticmethod"),none,(.fields #[(.ref 228)]),#[]⟩
noncomputable def o257 (P : Params) : Obj:=⟨(.type "dict"),none,(.dict #[en P "__module__" 609 (.str "io" 614),en P "__firstlineno__" 613 (.int (184) 612),en P "__static_attributes__" 616 (.ref 256),en P "__doc__" 617 .none] 2),#[]⟩
noncomputable def o258 (_ : Params) : Obj:=⟨(.type "type"),none,(.cls { name:="TextIOBase",bases:=[(.ref 231)],mro:=[(.ref 258),(.ref 231),(.type "object")],ns:=257,qualname:="TextIOBase",hasDict:=true,slotNames:=[],subclasses:=[(.ref 735)],abstract:=false,hasDel:=false }),#[(some (.ref 249)),none,(some (.str "TextIOBase" 602)),(some (.str "TextIOBase" 610)),(some .none),(some (.bool true))]⟩
noncomputable def o488 (_ : Params) : Obj:=⟨(.type "type"),none,(.cls { name:="BytesIO",bases:=[(.ref 246)],mro:=[(.ref 488),(.ref 246),(.ref 231),(.type "object")],ns:=487,qualname:="BytesIO",hasDict:=true,slotNames:=[],subclasses:=[],abstract:=false,hasDel:=false }),#[(some (.ref 261)),none,(some (.str "BytesIO" 620)),(some (.str "BytesIO" 628)),(some .none),(some (.bool true))]⟩
noncomputable def o498 (_ : Params) : Obj:=⟨(.type "tuple"),none,(.seq #[(.str "" 896),(.str "\n" 897)] 0),#[]⟩
noncomputable def o504 (_ : Params) : Obj:=cdO "__init__" "StringIO.__init__" 898 359 3 0 0 3 499 500 (.ref 501) (.ref 502) (.ref 503) 904
noncomputable def o505 (_ : Params) : Obj:=fn (me 21 1) "StringIO.__init__" (.ref 498) (.str "io" 512) (.ref 504)
noncomputable def o511 (_ : Params) : Obj:=cdO "__translated" "StringIO.__translated" 907 372 2 0 0 3 506 507 (.ref 508) (.ref 509) (.ref 510) 913
noncomputable def o512 (_ : Params) : Obj:=fn (me 21 2) "StringIO.__translated" .none (.str "io" 512) (.ref 511)
noncomputable def o518 (_ : Params) : Obj:=cdO "__check" "StringIO.__check" 916 380 1 0 0 3 513 514 (.ref 515) (.ref 516) (.ref 517) 920
noncomputable def o519 (_ : Params) : Obj:=fn (me 21 3) "StringIO.__check" .none (.str "io" 512) (.ref 518)
noncomputable def o532 (_ : Params) : Obj:=cdO "__line" "StringIO.__line" 930 388 2 0 0 3 527 528 (.ref 529) (.ref 530) (.ref 531) 942
noncomputable def o533 (_ : Params) : Obj:=fn (me 21 5) "StringIO.__line" .none (.str "io" 512) (.ref 532)
noncomputable def o674 (_ : Params) : Obj:=⟨(.type "tuple"),none,(.seq #[(.int (-1) 1089)] 0),#[]⟩
noncomputable def o680 (_ : Params) : Obj:=cdO "read" "StringIO.read" 1090 502 2 2 0 3 675 676 (.ref 677) (.ref 678) (.ref 679) 1097
noncomputable def o681 (_ : Params) : Obj:=fn (me 21 25) "StringIO.read" (.ref 674) (.str "io" 512) (.ref 680)
noncomputable def o682 (_ : Params) : Obj:=⟨(.type "tuple"),none,(.seq #[(.int (-1) 1101)] 0),#[]⟩
noncomputable def o688 (_ : Params) : Obj:=cdO "readline" "StringIO.readline" 1102 516 2 2 0 3 683 684 (.ref 685) (.ref 686) (.ref 687) 1107
noncomputable def o689 (_ : Params) : Obj:=fn (me 21 26) "StringIO.readline" (.ref 682) (.str "io" 512) (.ref 688)
noncomputable def o734 (P : Params) : Obj:=⟨(.type "dict"),none,(.dict #[en P "__module__" 889 (.str "_io" 894),en P "__firstlineno__" 893 (.int (356) 892),en P "__init__" 906 (.ref 505),en P "_StringIO__translated" 915 (.ref 512),en P "_StringIO__check" 922 (.ref 519),en P "_StringIO__check_dot" 929 (.ref 526),en P "_StringIO__line" 944 (.ref 533),en P "closed" 952 (.ref 541),en P "line_buffering" 960 (.ref 549),en P "newlines" 968 (.ref 557),en P "encoding" 976 (.ref 565),en P "errors" 984 (.ref 573),en P "close" 991 (.ref 580),en P "__enter__" 998 (.ref 587),en P "__exit__" 1006 (.ref 594),en P "readable" 1013 (.ref 601),en P "writable" 1020 (.ref 608),en P "seekable" 1027 (.ref 615),en P "isatty" 1034 (.ref 622),en P "flush" 1041 (.ref 629),en P "fileno" 1048 (.ref 636),en P "detach" 1055 (.ref 643),en P "getvalue" 1062 (.ref 650),en P "tell" 1069 (.ref 657),en P "seek" 1079 (.ref 665),en P "truncate" 1087 (.ref 673),en P "read" 1099 (.ref 681),en P "readline" 1109 (.ref 689),en P "readlines" 1119 (.ref 697),en P "__iter__" 1126 (.ref 704),en P "__next__" 1134 (.ref 711),en P "write" 1146 (.ref 718),en P "writelines" 1154 (.ref 725),en P "__repr__" 1161 (.ref 732),en P "__static_attributes__" 1165 (.ref 733),en P "__doc__" 1166 .none] 2),#[]⟩
noncomputable def o735 (_ : Params) : Obj:=⟨(.type "type"),none,(.cls { name:="StringIO",bases:=[(.ref 258)],mro:=[(.ref 735),(.ref 258),(.ref 231),(.type "object")],ns:=734,qualname:="StringIO",hasDict:=true,slotNames:=[],subclasses:=[],abstract:=false,hasDel:=false }),#[(some (.ref 491)),none,(some (.str "StringIO" 882)),(some (.str "StringIO" 890)),(some .none),(some (.bool true))]⟩
noncomputable def o787 (_ : Params) : Obj:=⟨(.type "tuple"),none,(.seq #[.none,.none,(.bool false),(.bool false)] 0),#[]⟩
noncomputable def o793 (_ : Params) : Obj:=cdO "__init__" "shlex.__init__" 1241 627 5 0 0 3 788 789 (.ref 790) (.ref 791) (.ref 792) 1250
noncomputable def o794 (_ : Params) : Obj:=fn (me 30 0) "shlex.__init__" (.ref 787) (.str "cpy313.shlex" 1227) (.ref 793)
noncomputable def o800 (_ : Params) : Obj:=cdO "punctuation_chars" "shlex.punctuation_chars" 1253 668 1 0 0 3 795 796 (.ref 797) (.ref 798) (.ref 799) 1257
noncomputable def o801 (_ : Params) : Obj:=fn (me 30 1) "shlex.punctuation_chars" .none (.str "cpy313.shlex" 1227) (.ref 800)
noncomputable def o802 (_ : Params) : Obj:=⟨(.type "property"),none,(.fields #[(.ref 801),.none,.none,.none,(.str "punctuation_chars" 1260),(.bool false)]),#[]⟩
noncomputable def o830 (_ : Params) : Obj:=cdO "get_token" "shlex.get_token" 1285 695 1 0 0 3 825 826 (.ref 827) (.ref 828) (.ref 829) 1294
noncomputable def o831 (_ : Params) : Obj:=fn (me 30 5) "shlex.get_token" .none (.str "cpy313.shlex" 1227) (.ref 830)
noncomputable def o837 (_ : Params) : Obj:=cdO "read_token" "shlex.read_token" 1297 722 1 0 0 3 832 833 (.ref 834) (.ref 835) (.ref 836) 1305
noncomputable def o838 (_ : Params) : Obj:=fn (me 30 6) "shlex.read_token" .none (.str "cpy313.shlex" 1227) (.ref 837)
noncomputable def o859 (_ : Params) : Obj:=cdO "__iter__" "shlex.__iter__" 1325 869 1 0 0 3 854 855 (.ref 856) (.ref 857) (.ref 858) 1329
noncomputable def o860 (_ : Params) : Obj:=fn (me 30 9) "shlex.__iter__" .none (.str "cpy313.shlex" 1227) (.ref 859)
noncomputable def o866 (_ : Params) : Obj:=cdO "__next__" "shlex.__next__" 1332 872 1 0 0 3 861 862 (.ref 863) (.ref 864) (.ref 865) 1337
noncomputable def o867 (_ : Params) : Obj:=fn (me 30 10) "shlex.__next__" .none (.str "cpy313.shlex" 1227) (.ref 866)
noncomputable def o869 (P : Params) : Obj:=⟨(.type "dict"),none,(.dict #[en P "__module__" 1236 (.str "cpy313.shlex" 1227),en P "__firstlineno__" 1240 (.int (625) 1239),en P "__init__" 1252 (.ref 794),en P "punctuation_chars" 1260 (.ref 802),en P "push_token" 1268 (.ref 809),en P "push_source" 1277 (.ref 817),en P "pop_source" 1284 (.ref 824),en P "get_token" 1296 (.ref 831),en P "read_token" 1307 (.ref 838),en P "sourcehook" 1315 (.ref 845),en P "error_leader" 1324 (.ref 853),en P "__iter__" 1331 (.ref 860),en P "__next__" 1339 (.ref 867),en P "__static_attributes__" 1360 (.ref 868),en P "__dict__" 1362 (.ref 871),en P "__weakref__" 1364 (.ref 872),en P "__doc__" 1365 .none] 4),#[]⟩
noncomputable def o870 (_ : Params) : Obj:=⟨(.type "type"),none,(.cls { name:="shlex",bases:=[(.type "object")],mro:=[(.ref 870),(.type "object")],ns:=869,qualname:="shlex",hasDict:=true,slotNames:=[],subclasses:=[],abstract:=false,hasDel:=false }),#[none,none,(some (.str "shlex" 1229)),(some (.str "shlex" 1237)),(some (.builtin "object.__new__")),(some (.bool true))]⟩
noncomputable def o875 (_ : Params) : Obj:=⟨(.type "tuple"),none,(.seq #[(.bool false),(.bool true)] 0),#[]⟩
noncomputable def o881 (_ : Params) : Obj:=cdO "split" "split" 1368 877 3 0 0 3 876 877 (.ref 878) (.ref 879) (.ref 880) 1375
noncomputable def o882 (_ : Params) : Obj:=fn (st 31) "split" (.ref 875) (.str "cpy313.shlex" 1227) (.ref 881)
noncomputable def o886 (_ : Params) : Obj:=cdO "_law_rows" "_law_rows" 1380 886 1 0 0 3 883 884 .none .none (.ref 885) 1383
noncomputable def o887 (_ : Params) : Obj:=fn (st 33) "_law_rows" .none (.str "law_dn0072_05" 1378) (.ref 886)
noncomputable def o891 (_ : Params) : Obj:=cdO "_law_emptied" "_law_emptied" 1386 897 1 0 0 3 888 889 .none .none (.ref 890) 1389
noncomputable def o892 (_ : Params) : Obj:=fn (st 34) "_law_emptied" .none (.str "law_dn0072_05" 1378) (.ref 891)
noncomputable def o898 (_ : Params) : Obj:=cdO "_law_order" "_law_order" 1392 905 1 0 0 3 893 894 (.ref 895) (.ref 896) (.ref 897) 1399
noncomputable def o899 (_ : Params) : Obj:=fn (st 35) "_law_order" .none (.str "law_dn0072_05" 1378) (.ref 898)
noncomputable def o903 (_ : Params) : Obj:=cdO "_law_clock" "_law_clock" 1402 913 2 0 0 3 900 901 .none .none (.ref 902) 1405
noncomputable def o904 (_ : Params) : Obj:=fn (st 36) "_law_clock" .none (.str "law_dn0072_05" 1378) (.ref 903)
noncomputable def o908 (_ : Params) : Obj:=cdO "law" "law" 1408 927 1 0 0 3 905 906 .none .none (.ref 907) 1411
noncomputable def o909 (_ : Params) : Obj:=fn (st 37) "law" .none (.str "law_dn0072_05" 1378) (.ref 908)
noncomputable def K (P : Params) : Frag:=[(2,o2 P),(3,o3 P),(45,o45 P),(46,o46 P),(52,o52 P),(53,o53 P),(59,o59 P),(60,o60 P),(66,o66 P),(67,o67 P),(81,o81 P),(82,o82 P),(85,o85 P),(86,o86 P),(87,o87 P),(88,o88 P),(89,o89 P),(112,o112 P),(118,o118 P),(119,o119 P),(125,o125 P),(126,o126 P),(132,o132 P),(133,o133 P),(137,o137 P),(138,o138 P),(144,o144 P),(145,o145 P),(151,o151 P),(152,o152 P),(165,o165 P),(166,o166 P),(172,o172 P),(173,o173 P),(182,o182 P),(183,o183 P),(200,o200 P),(201,o201 P),(227,o227 P),(228,o228 P),(230,o230 P),(231,o231 P),(232,o232 P),(257,o257 P),(258,o258 P),(488,o488 P),(498,o498 P),(504,o504 P),(505,o505 P),(511,o511 P),(512,o512 P),(518,o518 P),(519,o519 P),(532,o532 P),(533,o533 P),(674,o674 P),(680,o680 P),(681,o681 P),(682,o682 P),(688,o688 P),(689,o689 P),(734,o734 P),(735,o735 P),(787,o787 P),(793,o793 P),(794,o794 P),(800,o800 P),(801,o801 P),(802,o802 P),(830,o830 P),(831,o831 P),(837,o837 P),(838,o838 P),(859,o859 P),(860,o860 P),(866,o866 P),(867,o867 P),(869,o869 P),(870,o870 P),(875,o875 P),(881,o881 P),(882,o882 P),(886,o886 P),(887,o887 P),(891,o891 P),(892,o892 P),(898,o898 P),(899,o899 P),(903,o903 P),(904,o904 P),(908,o908 P),(909,o909 P)]
noncomputable def Kas : List Addr:=[2,3,45,46,52,53,59,60,66,67,81,82,85,86,87,88,89,112,118,119,125,126,132,133,137,138,144,145,151,152,165,166,172,173,182,183,200,201,227,228,230,231,232,257,258,488,498,504,505,511,512,518,519,532,533,674,680,681,682,688,689,734,735,787,793,794,800,801,802,830,831,837,838,859,860,866,867,869,870,875,881,882,886,887,891,892,898,899,903,904,908,909]
theorem K_as (P : Params) : Kas=(K P).map (·.1):=rfl
theorem leftX : LeftO prg q37 loose37 (fun o_=>true) (fun s=>(Kas.map s.heap.get?,[906].map s.heap.get?)) (fun w=>((K w.params).map (fun p=>some p.2),[some (tabObj #[])])) 12200:=by
 refine leftO_of 29 (some (.ref 6)) ?_
 rw[PySem.W.Fast.te10274390034422433532,PySem.W.Fast.te14289696077712309145,PySem.W.Fast.te10110043849684766642,PySem.W.Fast.te4187177175401517315,PySem.W.Fast.te14364793385576792824,PySem.W.Fast.te1435165496053646825]
 intro w
 kernel_rfl
structure Cx where
 w : World
 D : Drawn
 O : OsState
 b : Heap
noncomputable abbrev mdl (c : Cx) : Model:=model prg c.w
noncomputable def stt (c : Cx) (h : Heap) (k : Nat) : Shared:=⟨h,#[],c.D,k,c.O⟩
noncomputable def Okk (c : Cx) (s : Shared) : Prop:=s.gens=#[]∧s.drawn=c.D∧s.os=c.O
theorem Okk.eq {c : Cx}{s : Shared}(x : Okk c s) : s=stt c s.heap s.toks:=by
 obtain⟨h,g,d,t,o⟩:=s
 obtain⟨a,b,e⟩:=x
 cases a;cases b;cases e;rfl
theorem Okk.stt (c : Cx) (h : Heap) (k : Nat) : Okk c (stt c h k):=⟨rfl,rfl,rfl⟩
noncomputable def W {α : Type}(c : Cx) (A : Around) (t : Sem α) (Q : α→Heap→Prop) (X : Value→Heap→Prop) (h : Heap) : Prop:=
 ∀ k,wpAny (mdl c) A t (fun a s'=>Okk c s'∧Q a s'.heap) (fun e s'=>Okk c s'∧X e s'.heap) (stt c h k)
noncomputable def CD (c : Cx) (A : Around) (x : Code) (R : Result→Heap→Prop) (h : Heap) : Prop:=
 ∀ k,codeAny (mdl c) A x (fun r s'=>Okk c s'∧R r s'.heap) (stt c h k)
section
variable {α β : Type} {c : Cx} {A : Around} {X X' : Value → Heap → Prop} {h : Heap}
theorem Zh {t : Sem α}{Q Q' : α→Heap→Prop}(x : W c A t Q X h) (hQ : ∀ a h',Q a h'→Q' a h') (hX : ∀ e h',X e h'→X' e h') : W c A t Q' X' h:=
 fun k=>wpAny_mono (x k) (fun a s' y=>⟨y.1,hQ _ _ y.2⟩) fun e s' y=>⟨y.1,hX _ _ y.2⟩
theorem Zl {t : Sem α}{Q : α→Heap→Prop}(x : let Q':=Q;W c A t Q' X h) : W c A t Q X h:=x
theorem ifT {p a b : Prop} [d : Decidable p] (hp : p) (x : a) : if p then a else b:=(if_pos hp).symm ▸ x
theorem ifTr {p a b : Prop} [d : Decidable p] (hp : p) (x : if p then a else b) : a:=(if_pos hp).mp x
theorem ifF {p a b : Prop} [d : Decidable p] (hp : ¬p) (x : b) : if p then a else b:=(if_neg hp).symm ▸ x
theorem Zy {t : Sem α}{Q : α→Heap→Prop}{s : Shared}(x : W c A t Q X s.heap) (o : Okk c s) : wpAny (mdl c) A t (fun a s'=>Okk c s'∧Q a s'.heap) (fun e s'=>Okk c s'∧X e s'.heap) s:=by
 rw[o.eq];exact x _
theorem U1 {y : Code}{R R' : Result→Heap→Prop}(x : CD c A y R h) (hR : ∀ r h',R r h'→R' r h') : CD c A y R' h:=
 fun k=>codeAny_mono (x k) fun r s' z=>⟨z.1,hR _ _ z.2⟩
theorem ca_let {m : Model}{A : Around}{y : Code}{R : Result→Shared→Prop}{s : Shared}(x : let R':=R;codeAny m A y R' s) : codeAny m A y R s:=x
theorem Jd {m : Model}{A : Around}{α : Type}{t : Sem α}{Q : α→Shared→Prop}{X : Value→Shared→Prop}{s : Shared}(x : let Q':=Q;let X':=X;wpAny m A t Q' X' s) : wpAny m A t Q X s:=x
noncomputable def Ul (Q : Value→Heap→Prop) (X : Value→Heap→Prop) : Result→Heap→Prop
 | .ok (.ret v),h=>Q v h
 | .ok _,_=>False
 | .error e,h=>X e h
theorem J9 {y : Code}{Q : Value→Heap→Prop}(x : let Q':=Q;CD c A y (Ul Q' X) h) : CD c A y (Ul Q X) h:=x
theorem Xy {f : Value}{pos : List Value}{kw : List (Str × Value)}{Q : Value→Heap→Prop}(x : CD c A (.call f ⟨pos,kw⟩) (Ul Q X) h) : W c A (call f pos kw) Q X h:=
 fun k=>wpAny_call (codeAny_mono (x k) fun r s' z=>by
  cases r with
  | error e=>exact z
  | ok f=>cases f <;> first | exact z.2.elim | exact z)
end
noncomputable def Ja : List Str→List (Option Value)→Str→Option Value
 | n :: ns,v :: vs,x=>if x=n then v else Ja ns vs x
 | _,_,_=>none
theorem lmap_get {ns : List Str}{vs : List (Option Value)}{i : Nat}{x : Str}{v : Option Value}(hn : ns.Nodup) (h1 : ns[i]?=some x) (h2 : vs[i]?=some v) : Ja ns vs x=v:=by
 induction ns generalizing vs i with
 | nil=>cases h1
 | cons n ns ih=>cases vs with
  | nil=>cases h2
  | cons w vs=>cases i with
   | zero=>rw[← Option.some.inj h1,← Option.some.inj h2];exact if_pos rfl
   | succ i =>
    have h1 : ns[i]?=some x:=h1
    have h2 : vs[i]?=some v:=h2
    have hn:=List.nodup_cons.mp hn
    exact (if_neg fun e : x=n=>hn.1 (by rw[← e];exact Nd h1)).trans (ih hn.2 h1 h2)
theorem lmap_set {ns : List Str}{vs : List (Option Value)}{i : Nat}{x : Str}{v : Value}(hn : ns.Nodup) (h1 : ns[i]?=some x) (h2 : i < vs.length) :
 Ja ns (vs.set i (some v))=fun y=>if y=x then some v else Ja ns vs y:=by
 induction ns generalizing vs i with
 | nil=>cases h1
 | cons n ns ih=>cases vs with
  | nil=>cases h2
  | cons w vs=>cases i with
   | zero =>
    have h1 : n=x:=Option.some.inj h1
    subst h1
    funext y
    show (if y=n then some v else Ja ns vs y)=if y=n then some v else if y=n then w else Ja ns vs y
    by_cases hy : y=n
    ·rw[if_pos hy,if_pos hy]
    ·rw[if_neg hy,if_neg hy,if_neg hy]
   | succ i =>
    have h1' : ns[i]?=some x:=h1
    have ih:=ih (List.nodup_cons.mp hn).2 h1' (Nat.lt_of_succ_lt_succ h2)
    funext y
    show (if y=n then w else Ja ns (vs.set i (some v)) y)=if y=x then some v else if y=n then w else Ja ns vs y
    rw[ih]
    by_cases hy : y=n
    ·rw[if_pos hy,if_pos hy,if_neg fun e=>(List.nodup_cons.mp hn).1 (by rw[← hy,e];exact Nd h1')]
    ·rw[if_neg hy,if_neg hy]
structure EO (env : Env) (ns : List Str) : Prop where
 knd : env.scope.kind=.function
 kinds : ∀ x∈ns,env.scope.names.lookup x=some .local
 nd : ns.Nodup
 dbg : Str.ofString "__debug__" ∉ ns
 glob : env.globals=mainGlobals
 bi : env.builtins=builtinsNs
structure Bs (c : Cx) (g : Heap) : Prop where
 kin : (K c.w.params).In g
 lim : g.NoLimit
 dig : ∃ mc,g.Ns cStatics mc∧mc "sys.int_max_str_digits"=none
 bi : ∃ mb,g.Ns builtinsNs mb∧∀ x : Str,x≠"__name__"→mb x=bootBuiltins x
 gl : ∃ mg,g.Ns mainGlobals mg
theorem Bs.mono {c : Cx}{g g' : Heap}(b : Bs c g) (k : g.StaysIn g') : Bs c g':=
 ⟨fun a o e=>k _ _ (b.kin a o e),b.lim.keeps k,b.dig.imp fun m x=>⟨x.1.keeps k,x.2⟩,b.bi.imp fun m x=>⟨x.1.keeps k,x.2⟩,b.gl.imp fun m x=>x.keeps k⟩
inductive Sp where
 | li (vs : List Value)
 | tu (vs : List Value)
 | ce (v : Option Value)
 | itL (l : Addr) (i : Nat)
 | itT (l : Addr) (i : Nat)
 | itR (x left step : Int)
 | ob (o : Obj)
 | pr (P : Obj→Prop)
noncomputable def Sp.sat : Sp→Obj→Prop
 | .li vs,o=>∃ n,o=listOf vs.toArray n
 | .tu vs,o=>o.cls=.type "tuple"∧∃ n,o.data=.seq vs.toArray n
 | .ce v,o=>o.data=.cell v
 | .itL l i,o=>o.cls=.type "list_iterator"∧o.data=.fields #[.ref l,.int i 0]
 | .itT l i,o=>o.cls=.type "tuple_iterator"∧o.data=.fields #[.ref l,.int i 0]
 | .itR x left step,o=>o={ cls:=.type "range_iterator",dict:=none,data:=.fields #[rawInt x,rawInt left,rawInt step],slots:=#[] }
 | .ob o',o=>o=o'
 | .pr P,o=>P o
noncomputable def At (h : Heap) (a : Addr) (sp : Sp) : Prop:=∃ o,h.get? a=some o∧sp.sat o
theorem At.mono {h h' : Heap}{a : Addr}{sp : Sp}(x : At h a sp) (k : ∀ o,h.get? a=some o→h'.get? a=some o) : At h' a sp:=x.imp fun o r=>⟨k o r.1,r.2⟩
theorem At.lt {h : Heap}{a : Addr}{sp : Sp}(x : At h a sp) : a < h.objs.size:=x.elim fun _ e=>Heap.lt_size e.1
structure Bas where
 hp : Heap
 fo : List (Addr × (Str→Option Value))
noncomputable def Bas.fs (g : Bas) : List Addr:=g.fo.map (·.1)
structure Led (c : Cx) (env : Env) (g : Bas) (ns : List Str) (vs : List (Option Value)) (as : List Addr) (os : List Sp) (h : Heap) : Prop where
 eo : EO env ns
 base : Bs c c.b
 fr : Fr c.b env.locals h (Ja ns vs)
 low : c.b.StaysIn g.hp
 keep : g.hp.StaysIn h
 lg : g.hp.get? env.locals=none
 fo : ∀ p∈g.fo,h.Ns p.1 p.2
 fd : (env.locals :: g.fs).Nodup
 fg : ∀ a∈g.fs,g.hp.get? a=none
 fa : ∀ a∈g.fs,a ∉ as
 len : as.length=os.length
 nd : as.Nodup
 nl : env.locals ∉ as
 new : ∀ a∈as,g.hp.get? a=none
 at_ : ∀ (i : Nat) (a : Addr) (o : Sp),as[i]?=some a→os[i]?=some o→At h a o
theorem Led.lv {c : Cx}{env : Env}{g : Bas}{ns : List Str}{vs : List (Option Value)}{as : List Addr}{os : List Sp}{h : Heap}{P : Prop}(H : Led c env g ns vs as os h) (k : let v:=vs;Led c env g ns v as os h→P) : P:=k H
theorem Led.lva {c : Cx}{env : Env}{g : Bas}{ns : List Str}{vs : List (Option Value)}{as : List Addr}{os : List Sp}{h : Heap}{P : Prop}(H : Led c env g ns vs as os h) (k : let v:=vs;let a:=as;Led c env g ns v a os h→P) : P:=k H
theorem Led.osE {c : Cx}{env : Env}{g : Bas}{ns : List Str}{vs : List (Option Value)}{as : List Addr}{os os' : List Sp}{h : Heap}(H : Led c env g ns vs as os h) (e : os=os') : Led c env g ns vs as os' h:=e ▸ H
theorem Led.lvs {c : Cx}{env : Env}{g : Bas}{ns : List Str}{vs : List (Option Value)}{as : List Addr}{os : List Sp}{h : Heap}{P : Prop}(H : Led c env g ns vs as os h) (k : let v:=vs;let a:=as;let o:=os;Led c env g ns v a o h→P) : P:=k H
inductive Loc (g : Bas) (as : List Addr) (os : List Sp) (a : Addr) (o : Sp) : Prop
 | fz (h : At g.hp a o)
 | ld (i : Nat) (h : as[i]?=some a) (k : os[i]?=some o)
theorem Heap.Ns.upd {h h' : Heap}{a b : Addr}{m : Str→Option Value}(x : h.Ns a m) (hs : Heap.SameBut b h h') (hab : a≠b) : h'.Ns a m:=x.sameBut hs hab
variable {c : Cx} {A : Around} {env : Env} {g : Bas} {ns : List Str} {vs : List (Option Value)} {as : List Addr} {os : List Sp} {h : Heap} {X : Value → Heap → Prop} {Q : Value → Heap → Prop}
theorem Led.get (H : Led c env g ns vs as os h) {a : Addr}{o : Sp}(l : Loc g as os a o) : At h a o:=by
 cases l with
 | fz e=>exact e.mono fun o e=>H.keep _ _ e
 | ld i e k=>exact H.at_ i a o e k
theorem Led.kin (H : Led c env g ns vs as os h) : (K c.w.params).In h:=fun a o e=>H.fr.keep _ _ (H.base.kin a o e)
theorem Led.fne (H : Led c env g ns vs as os h) {a : Addr}(ha : a∈g.fs) : a≠env.locals:=fun e=>(List.nodup_cons.mp H.fd).1 (e ▸ ha)
theorem Vy {p : Addr × (Str→Option Value)}(hp : p∈g.fo) : p.1∈g.fs:=List.mem_map_of_mem hp
theorem Led.store (H : Led c env g ns vs as os h) {i : Nat}{x : Str}{v : Value}{h' : Heap}(hx : ns[i]?=some x) (hi : i < vs.length)
 (hn : h'.Ns env.locals (fun y=>if y=x then some v else Ja ns vs y)) (hs : Heap.SameBut env.locals h h') : Led c env g ns (vs.set i (some v)) as os h':=by
 refine⟨H.eo,H.base,?_,H.low,fun b o e=>?_,H.lg,fun p hp=>(H.fo p hp).sameBut hs (H.fne (Vy hp)),H.fd,H.fg,H.fa,H.len,H.nd,H.nl,H.new,fun j a o e k=>?_⟩
 ·rw[lmap_set H.eo.nd hx hi];exact H.fr.set hn hs
 ·exact (hs.2 b (fun z=>by rw[z,H.lg] at e;cases e)).trans (H.keep b o e)
 ·have ha : a≠env.locals:=fun e'=>H.nl (e' ▸ Nd e)
  exact (H.at_ j a o e k).mono fun o e=>(hs.2 a ha).trans e
theorem Led.upd (H : Led c env g ns vs as os h) {i : Nat}{a : Addr}{o o' : Sp}{h' : Heap}(ha : as[i]?=some a) (ho : os[i]?=some o) (hs : Heap.SameBut a h h') (e : At h' a o') :
 Led c env g ns vs as (os.set i o') h':=by
 have hm:=Nd ha
 have hl : env.locals≠a:=fun e=>H.nl (e ▸ hm)
 have hg:=H.new a hm
 have kp : g.hp.StaysIn h':=fun b x q=>(hs.2 b (fun z=>by rw[z,hg] at q;cases q)).trans (H.keep b x q)
 refine⟨H.eo,H.base,⟨?_,fun b x q=>kp _ _ (H.low _ _ q),H.fr.above⟩,H.low,kp,H.lg,fun p hp=>(H.fo p hp).sameBut hs (fun e=>H.fa _ (Vy hp) (e ▸ hm)),H.fd,H.fg,H.fa,by rw[List.length_set];exact H.len,H.nd,H.nl,H.new,fun j b x eb ex=>?_⟩
 ·exact H.fr.ns.sameBut hs hl
 ·by_cases hj : j=i
  ·subst hj
   rw[ha] at eb;cases eb
   have hlt : j < os.length:=(Nf ho).1
   rw[List.getElem?_set_self hlt] at ex;cases ex
   exact e
  ·rw[List.getElem?_set_ne (Ne.symm hj)] at ex
   have hb : b≠a:=fun z=>hj (by
    subst z
    exact (List.getElem?_inj (Nf eb).1 H.nd).mp (eb.trans ha.symm))
   exact (H.at_ j b x eb ex).mono fun o e=>(hs.2 b hb).trans e
theorem Ns_push {h : Heap}{a : Addr}{m : Str→Option Value}(x : h.Ns a m) (o : Obj) : (h.push o).Ns a m:=x.keeps fun o_ o_ e=>Heap.get?_push_of_some _ e
theorem Led.push (H : Led c env g ns vs as os h) (o : Obj) : Led c env g ns vs as os (h.push o):=
 ⟨H.eo,H.base,H.fr.push o,H.low,fun b x e=>Heap.get?_push_of_some _ (H.keep b x e),H.lg,fun p hp=>Ns_push (H.fo p hp) o,H.fd,H.fg,H.fa,H.len,H.nd,H.nl,H.new,fun i a x e k=>(H.at_ i a x e k).mono fun o e=>Heap.get?_push_of_some _ e⟩
theorem Led.lt (H : Led c env g ns vs as os h) {a : Addr}(q : a∈as) : a < h.objs.size:=by
 obtain⟨i,hi⟩:=List.mem_iff_getElem?.mp q
 have hl:=H.len
 have hi':=(Nf hi).1
 exact (H.at_ i _ (os[i]'(by exact r1 ‹_› ‹_›)) hi (Nc _)).lt
theorem Led.ltf (H : Led c env g ns vs as os h) {a : Addr}(q : a∈g.fs) : a < h.objs.size:=by
 obtain⟨p,hp,rfl⟩:=Ng q
 exact (H.fo p hp).lt
theorem Led.alloc (H : Led c env g ns vs as os h) {o : Obj}{sp : Sp}(hf : o.isFreed=false) (hsp : sp.sat o) : Led c env g ns vs (as ++ [h.objs.size]) (os ++ [sp]) (h.push o):=by
 have hL:=H.fr.ns.lt
 have hn : h.objs.size ∉ as:=fun q=>absurd (H.lt q) (Nat.lt_irrefl _)
 refine⟨H.eo,H.base,H.fr.push o,H.low,fun b x e=>Heap.get?_push_of_some _ (H.keep b x e),H.lg,fun p hp=>Ns_push (H.fo p hp) o,H.fd,H.fg,fun a ha q=>?_,by simp[H.len],?_,?_,?_,fun i a x e k=>?_⟩
 ·rcases Nh q with q | q
  ·exact H.fa a ha q
  ·simp at q;have:=H.ltf ha;rw[q] at this;exact absurd this (Nat.lt_irrefl _)
 ·rw[List.nodup_append];refine⟨H.nd,by simp,fun a ha b hb=>?_⟩
  simp at hb;subst hb;exact fun e=>hn (e ▸ ha)
 ·intro q
  rcases Nh q with q | q
  ·exact H.nl q
  ·simp at q;rw[q] at hL;exact absurd hL (Nat.lt_irrefl _)
 ·intro a q
  rcases Nh q with q | q
  ·exact H.new a q
  ·simp at q;subst q
   cases hq : g.hp.get? h.objs.size with
   | none=>rfl
   | some o'=>exact absurd (Heap.lt_size (H.keep _ _ hq)) (Nat.lt_irrefl _)
 ·by_cases hi : i < as.length
  ·rw[List.getElem?_append_left hi] at e
   rw[List.getElem?_append_left (by rw[← H.len];exact hi)] at k
   exact (H.at_ i a x e k).mono fun o e=>Heap.get?_push_of_some _ e
  ·have hi' : i=as.length:=by
    have:=(Nf e).1
    simp at this;exact Nat.le_antisymm (Nat.le_of_lt_succ this) (Nat.le_of_not_lt hi)
   subst hi'
   simp at e;subst e
   rw[H.len] at k;simp at k;subst k
   exact⟨o,Heap.get?_push_size _ hf,hsp⟩
noncomputable def ice (g : Bas) (h : Heap) (env : Env) (as : List Addr) : Bas:=⟨hideAll h (env.locals :: g.fs ++ as),g.fo⟩
theorem Led.cold (H : Led c env g ns vs as os h) {b : Addr}{o : Obj}(e : g.hp.get? b=some o) : b ∉ env.locals :: g.fs ++ as:=fun q=>by
 rcases Nh q with q | q
 ·rcases List.mem_cons.mp q with q | q
  ·rw[q,H.lg] at e;cases e
  ·rw[H.fg b q] at e;cases e
 ·rw[H.new b q] at e;cases e
theorem Tp {a : Addr}{o : Obj}(e : h.get? a=some o) (hl : a≠env.locals) (hf : a ∉ g.fs) (ha : a ∉ as) : (ice g h env as).hp.get? a=some o:=
 hideAll_get _ e (fun q=>by
  rcases Nh q with q | q
  ·rcases List.mem_cons.mp q with q | q
   ·exact hl q
   ·exact hf q
  ·exact ha q)
theorem Led.stays (H : Led c env g ns vs as os h) : g.hp.StaysIn (ice g h env as).hp:=fun b o e=>hideAll_get _ (H.keep _ _ e) (H.cold e)
theorem Led.freeze (H : Led c env g ns vs as os h) : Led c env (ice g h env as) ns vs as os h:=
 ⟨H.eo,H.base,H.fr,fun b o e=>H.stays _ _ (H.low _ _ e),fun b o e=>of_hideAll _ e,hideAll_none _ (.head _),H.fo,H.fd,fun a ha=>hideAll_none _ (List.mem_append_left _ (.tail _ ha)),H.fa,H.len,H.nd,H.nl,
  fun a ha=>hideAll_none _ (List.mem_append_right _ ha),H.at_⟩
theorem Led.weaken (H : Led c env g ns vs as os h) {g' : Bas}(lo : c.b.StaysIn g'.hp) (k : g'.hp.StaysIn g.hp) (e : g'.fo=g.fo) : Led c env g' ns vs as os h:=by
 have no : ∀ a,g.hp.get? a=none→g'.hp.get? a=none:=fun a ha=>by
  cases q : g'.hp.get? a with
  | none=>rfl
  | some o=>have:=k _ _ q;rw[ha] at this;cases this
 have ef : g'.fs=g.fs:=by unfold Bas.fs;rw[e]
 exact⟨H.eo,H.base,H.fr,lo,fun b o e=>H.keep _ _ (k _ _ e),no _ H.lg,by rw[e];exact H.fo,by rw[ef];exact H.fd,fun a ha=>no a (H.fg a (ef ▸ ha)),by rw[ef];exact H.fa,H.len,H.nd,H.nl,fun a ha=>no a (H.new a ha),H.at_⟩
noncomputable def subB (g : Bas) (h : Heap) (env : Env) (ns : List Str) (vs : List (Option Value)) (as : List Addr) : Bas:=⟨hideAll h (env.locals :: g.fs ++ as),(env.locals,Ja ns vs) :: g.fo⟩
theorem subB_fs : (subB g h env ns vs as).fs=env.locals :: g.fs:=rfl
theorem Led.stay (H : Led c env g ns vs as os h) : g.hp.StaysIn (subB g h env ns vs as).hp:=fun b o e=>hideAll_get _ (H.keep _ _ e) (H.cold e)
theorem Led.enter (H : Led c env g ns vs as os h) {env' : Env}{ns' : List Str}{vs' : List (Option Value)}{h₁ : Heap}(eo : EO env' ns') (hL : env'.locals=h.objs.size)
 (hn : h₁.Ns env'.locals (Ja ns' vs')) (hk : ∀ b o,h.get? b=some o→h₁.get? b=some o) : Led c env' (subB g h env ns vs as) ns' vs' as os h₁:=by
 have st:=H.stay
 have hLs:=H.fr.ns.lt
 refine⟨eo,H.base,⟨hn,fun b o e=>hk _ _ (H.keep _ _ (H.low _ _ e)),?_⟩,fun b o e=>st _ _ (H.low _ _ e),fun b o e=>hk _ _ (of_hideAll _ e),?_,?_,?_,fun a ha=>hideAll_none _ (List.mem_append_left _ ha),?_,H.len,H.nd,fun q=>?_,
  fun a ha=>hideAll_none _ (List.mem_append_right _ ha),fun i a o e k=>(H.at_ i a o e k).mono fun o e=>hk _ _ e⟩
 ·rw[hL];exact Na (S5 H.fr.above hLs)
 ·cases q : (subB g h env ns vs as).hp.get? env'.locals with
  | none=>rfl
  | some o=>have:=Heap.lt_size (of_hideAll _ q);rw[hL] at this;exact absurd this (Nat.lt_irrefl _)
 ·intro p hp
  rcases List.mem_cons.mp hp with rfl | hp
  ·exact H.fr.ns.keeps hk
  ·exact (H.fo p hp).keeps hk
 ·rw[subB_fs]
  refine List.nodup_cons.mpr ⟨fun q=>?_,H.fd⟩
  have : env'.locals < h.objs.size:=by
   rcases List.mem_cons.mp q with q | q
   ·rw[q];exact hLs
   ·exact H.ltf q
  rw[hL] at this;exact absurd this (Nat.lt_irrefl _)
 ·intro a ha
  rcases List.mem_cons.mp ha with rfl | ha
  ·exact H.nl
  ·exact H.fa a ha
 ·have:=H.lt q;rw[hL] at this;exact absurd this (Nat.lt_irrefl _)
theorem Led.leave (H : Led c env g ns vs as os h) {env' : Env}{ns' : List Str}{vs' : List (Option Value)}{as' : List Addr}{os' : List Sp}{g' : Bas}{h₂ : Heap}
 (H' : Led c env' g' ns' vs' as' os' h₂) (k : (subB g h env ns vs as).hp.StaysIn g'.hp) (e : g'.fo=(env.locals,Ja ns vs) :: g.fo) : Led c env ⟨g'.hp,g.fo⟩ ns vs as' os' h₂∧g.hp.StaysIn g'.hp:=by
 have st:=H.stay
 have ef : g'.fs=env.locals :: g.fs:=by unfold Bas.fs;rw[e];rfl
 refine⟨⟨H.eo,H.base,⟨H'.fo (env.locals,Ja ns vs) (by rw[e];exact .head _),fun b o e=>H'.keep _ _ (k _ _ (st _ _ (H.low _ _ e))),H.fr.above⟩,fun b o e=>k _ _ (st _ _ (H.low _ _ e)),H'.keep,H'.fg _ (by rw[ef];exact .head _),?_,H.fd,?_,?_,H'.len,H'.nd,?_,H'.new,H'.at_⟩,fun b o e=>k _ _ (st _ _ e)⟩
 ·exact fun p hp=>H'.fo p (by rw[e];exact .tail _ hp)
 ·exact fun a ha=>H'.fg a (by rw[ef];exact .tail _ ha)
 ·exact fun a ha=>H'.fa a (by rw[ef];exact .tail _ ha)
 ·exact H'.fa _ (by rw[ef];exact .head _)
theorem Led.leave₀ (H : Led c env g ns vs as os h) {env' : Env}{ns' : List Str}{vs' : List (Option Value)}{as' : List Addr}{os' : List Sp}{h₂ : Heap}
 (H' : Led c env' (subB g h env ns vs as) ns' vs' as' os' h₂) : Led c env g ns vs as' os' h₂:=
 have B:=H.leave H' (fun o_ o_ e=>e) rfl
 B.1.weaken (g':=g) H.low B.2 rfl
theorem Led.drop (H : Led c env g ns vs as os h) {i : Nat}{a : Addr}{h' : Heap}(ha : as[i]?=some a) (hs : ∀ b o,b≠a→h.get? b=some o→h'.get? b=some o) : Led c env g ns vs (as.eraseIdx i) (os.eraseIdx i) h':=by
 have hm:=Nd ha
 have hl : env.locals≠a:=fun e=>H.nl (e ▸ hm)
 have hg:=H.new a hm
 have kp : g.hp.StaysIn h':=fun b x q=>hs b x (fun z=>by rw[z,hg] at q;cases q) (H.keep b x q)
 have nsk : ∀ {b : Addr}{m : Str→Option Value},b≠a→h.Ns b m→h'.Ns b m:=fun hb n=>by obtain⟨o,es,ep,e,r⟩:=n;exact⟨o,es,ep,hs _ _ hb e,r⟩
 have sub : ∀ b∈as.eraseIdx i,b∈as:=fun b hb=>List.mem_of_mem_eraseIdx hb
 have hil:=(Nf ha).1
 refine⟨H.eo,H.base,⟨nsk hl H.fr.ns,fun b x q=>kp _ _ (H.low _ _ q),H.fr.above⟩,H.low,kp,H.lg,fun p hp=>nsk (fun e=>H.fa _ (Vy hp) (e ▸ hm)) (H.fo p hp),H.fd,H.fg,fun b hb q=>H.fa b hb (sub b q),
  by rw[List.length_eraseIdx,List.length_eraseIdx,H.len],H.nd.sublist (List.eraseIdx_sublist ..),fun q=>H.nl (sub _ q),fun b hb=>H.new b (sub b hb),fun j b x eb ex=>?_⟩
 have key : ∃ j',j'≠i∧as[j']?=some b∧os[j']?=some x:=by
  rw[List.getElem?_eraseIdx] at eb ex
  by_cases hj : j < i
  ·rw[if_pos hj] at eb ex;exact⟨j,by exact Nat.ne_of_lt ‹_›,eb,ex⟩
  ·rw[if_neg hj] at eb ex;exact⟨j + 1,Nat.ne_of_gt (Nat.lt_succ_of_le (Nat.le_of_not_lt hj)),eb,ex⟩
 obtain⟨j',hne,e1,e2⟩:=key
 have hb : b≠a:=fun z=>hne (by
  subst z
  exact (List.getElem?_inj (Nf e1).1 H.nd).mp (e1.trans ha.symm))
 exact (H.at_ j' b x e1 e2).mono fun o e=>hs b o hb e
noncomputable abbrev isI (i : Int) (v : Value) : Prop:=∃ t,v=.int i t
noncomputable abbrev isS (x : Str) (v : Value) : Prop:=∃ t,v=.str x t
noncomputable abbrev noX : Value→Heap→Prop:=fun o_ o_=>False
noncomputable def EV (c : Cx) (A : Around) (env : Env) (e : Expr) (g : Bas) (ns : List Str) (vs : List (Option Value)) (as : List Addr) (os : List Sp) (R : Value→Prop) : Prop:=
 ∀ h,Led c env g ns vs as os h→W c A (eval e env) (fun v h'=>h'=h∧R v) noX h
noncomputable def TV (c : Cx) (A : Around) (env : Env) (e : Expr) (g : Bas) (ns : List Str) (vs : List (Option Value)) (as : List Addr) (os : List Sp) (b : Bool) : Prop:=
 ∀ h,Led c env g ns vs as os h→W c A (isTrue e env (eval e env)) (fun v h'=>h'=h∧v=b) noX h
noncomputable def EX (c : Cx) (A : Around) (env : Env) (e : Expr) (g : Bas) (ns : List Str) (vs : List (Option Value)) (as : List Addr) (os : List Sp) (Q : Value→Heap→Prop) (X : Value→Heap→Prop) : Prop:=
 ∀ h,Led c env g ns vs as os h→W c A (eval e env) Q X h
noncomputable def SB (c : Cx) (A : Around) (env : Env) (body : List Stmt) (g : Bas) (ns : List Str) (vs : List (Option Value)) (as : List Addr) (os : List Sp) (Q : Flow→Heap→Prop) (X : Value→Heap→Prop) : Prop:=
 ∀ h,Led c env g ns vs as os h→W c A (execs body env) Q X h
theorem Jy {α : Type}{t : Sem α}{R : α→Prop}{Q : α→Heap→Prop}(x : W c A t (fun v h'=>h'=h∧R v) noX h) (k : ∀ v,R v→Q v h) : W c A t Q X h:=
 Zh x (fun v h' y=>y.1 ▸ k v y.2) fun o_ o_ y=>y.elim
theorem EV.mono {e : Expr}{R R' : Value→Prop}(x : EV c A env e g ns vs as os R) (k : ∀ v,R v→R' v) : EV c A env e g ns vs as os R':=
 fun h H=>Zh (x h H) (fun v h' y=>⟨y.1,k _ y.2⟩) fun o_ o_ y=>y
theorem Za {x : Str}{p : Pos}{v : Value}(i : Nat) (hn : ns[i]?=some x) (hv : vs[i]?=some (some v)) : EV c A env (.Name x p) g ns vs as os (·=v):=fun h H k=>by
 have hm:=Nd hn
 refine wpAny_Name (wpAny_loadName_local H.eo.knd (H.eo.kinds x hm) H.fr.ns (lmap_get H.eo.nd hn hv) ⟨Okk.stt c h k,rfl,rfl⟩) ?_
 cases q : x == ("__debug__" : Str) with
 | false=>rfl
 | true=>exact absurd (eq_of_beq q ▸ hm) H.eo.dbg
theorem Zj {x : Str}{p : Pos}{n : Int}{t : Tok}(i : Nat) (hn : ns[i]?=some x) (hv : vs[i]?=some (some (.int n t))) : EV c A env (.Name x p) g ns vs as os (isI n):=
 (Za i hn hv).mono fun v e=>⟨t,e⟩
theorem Zk {x : Str}{p : Pos}{n : Str}{t : Tok}(i : Nat) (hn : ns[i]?=some x) (hv : vs[i]?=some (some (.str n t))) : EV c A env (.Name x p) g ns vs as os (isS n):=
 (Za i hn hv).mono fun v e=>⟨t,e⟩
theorem ev_i {n : Int}{k : Nat}{p : Pos} : EV c A env (.Constant (.int n) k p) g ns vs as os (isI n):=fun h H kk=>wpAny_Constant_int ⟨⟨rfl,rfl,rfl⟩,rfl,_,rfl⟩
theorem ev_s {x : Str}{k : Nat}{p : Pos} : EV c A env (.Constant (.str x) k p) g ns vs as os (isS x):=fun h H kk=>wpAny_Constant_str ⟨⟨rfl,rfl,rfl⟩,rfl,_,rfl⟩
theorem V4 {x : Bool}{k : Nat}{p : Pos} : EV c A env (.Constant (.bool x) k p) g ns vs as os (·=.bool x):=fun h H kk=>wpAny_Constant_bool ⟨⟨rfl,rfl,rfl⟩,rfl,rfl⟩
theorem ev_none {k : Nat}{p : Pos} : EV c A env (.Constant .none k p) g ns vs as os (·=.none):=fun h H kk=>wpAny_Constant_none ⟨⟨rfl,rfl,rfl⟩,rfl,rfl⟩
theorem W_two {l r : Expr}{R1 R2 R : Value→Prop}{t : Value→Value→Sem Value}(x : EV c A env l g ns vs as os R1) (y : EV c A env r g ns vs as os R2)
 (H : Led c env g ns vs as os h) (z : ∀ a b,R1 a→R2 b→W c A (t a b) (fun v h'=>h'=h∧R v) noX h) (k : Nat) :
 wpAny (mdl c) A (eval l env) (fun a s1=>wpAny (mdl c) A (eval r env) (fun b s2=>wpAny (mdl c) A (t a b) (fun v s'=>Okk c s'∧s'.heap=h∧R v) (fun e s'=>Okk c s'∧noX e s'.heap) s2) (fun e s'=>Okk c s'∧noX e s'.heap) s1) (fun e s'=>Okk c s'∧noX e s'.heap) (stt c h k):=by
 refine wpAny_mono (x h H k) (fun a s1 q=>?_) fun o_ o_ q=>q
 rw[q.1.eq,q.2.1]
 refine wpAny_mono (y h H _) (fun b s2 q2=>?_) fun o_ o_ q=>q
 rw[q2.1.eq,q2.2.1]
 exact z a b q.2.2 q2.2.2 _
theorem U6 {l r : Expr}{op : Operator}{p : Pos}{R1 R2 R : Value→Prop}(x : EV c A env l g ns vs as os R1) (y : EV c A env r g ns vs as os R2)
 (z : ∀ h,Led c env g ns vs as os h→∀ a b,R1 a→R2 b→W c A (binaryOp op a b) (fun v h'=>h'=h∧R v) noX h) : EV c A env (.BinOp l op r p) g ns vs as os R:=
 fun h H k=>wpAny_BinOp (W_two x y H (z h H) k)
theorem Ji {l r : Expr}{p : Pos}{i j : Int}(x : EV c A env l g ns vs as os (isI i)) (y : EV c A env r g ns vs as os (isI j)) : EV c A env (.BinOp l .Add r p) g ns vs as os (isI (i + j)):=
 U6 x y fun h H a b ha hb k=>by obtain⟨t,rfl⟩:=ha;obtain⟨u,rfl⟩:=hb;exact P.add_int ⟨⟨rfl,rfl,rfl⟩,rfl,_,rfl⟩
theorem T8 {l r : Expr}{p : Pos}{i j : Int}(x : EV c A env l g ns vs as os (isI i)) (y : EV c A env r g ns vs as os (isI j)) : EV c A env (.BinOp l .Sub r p) g ns vs as os (isI (i - j)):=
 U6 x y fun h H a b ha hb k=>by obtain⟨t,rfl⟩:=ha;obtain⟨u,rfl⟩:=hb;exact P.sub_int ⟨⟨rfl,rfl,rfl⟩,rfl,_,rfl⟩
theorem Uj {l r : Expr}{p : Pos}{i j : Int}(x : EV c A env l g ns vs as os (isI i)) (y : EV c A env r g ns vs as os (isI j)) (hm : IntMulOk i j) : EV c A env (.BinOp l .Mult r p) g ns vs as os (isI (i * j)):=
 U6 x y fun h H a b ha hb k=>by obtain⟨t,rfl⟩:=ha;obtain⟨u,rfl⟩:=hb;exact P.mul_int ⟨⟨rfl,rfl,rfl⟩,rfl,_,rfl⟩ hm
theorem ev_shr {l r : Expr}{p : Pos}{i j : Int}(x : EV c A env l g ns vs as os (isI i)) (y : EV c A env r g ns vs as os (isI j)) (hj : 0≤j) : EV c A env (.BinOp l .RShift r p) g ns vs as os (isI (i.fdiv (2 ^ j.toNat))):=
 U6 x y fun h H a b ha hb k=>by obtain⟨t,rfl⟩:=ha;obtain⟨u,rfl⟩:=hb;exact rshift_int hj ⟨⟨rfl,rfl,rfl⟩,rfl,_,rfl⟩
theorem ev_cmp {l r : Expr}{op : CmpOp}{p : Pos}{R1 R2 R : Value→Prop}(x : EV c A env l g ns vs as os R1) (y : EV c A env r g ns vs as os R2)
 (z : ∀ h,Led c env g ns vs as os h→∀ a b,R1 a→R2 b→W c A (compareOp op a b) (fun v h'=>h'=h∧R v) noX h) (hm : autoParam (behindInMarks op r=false) zU) : EV c A env (.Compare l [op] [r] p) g ns vs as os R:=
 fun h H k=>wpAny_Compare1 (W_two x y H (z h H) k) hm
theorem Zb {l r : Expr}{op : CmpOp}{p : Pos}{R1 R2 : Value→Prop}{b : Bool}(x : EV c A env l g ns vs as os R1) (y : EV c A env r g ns vs as os R2)
 (z : ∀ h,Led c env g ns vs as os h→∀ a b',R1 a→R2 b'→W c A (compareOp op a b') (fun v h'=>h'=h∧v=.bool b) noX h) (hm : autoParam (behindInMarks op r=false) zU) : TV c A env (.Compare l [op] [r] p) g ns vs as os b:=
 fun h H k=>wpAny_isTrue_Compare1 (by
  have:=W_two x y H (z h H) k
  refine wpAny_mono this (fun a s1 q=>wpAny_mono q (fun b s2 q2=>wpAny_mono q2 (fun v s3 q3=>?_) fun o_ o_ q=>q) fun o_ o_ q=>q) fun o_ o_ q=>q
  rw[q3.2.2]
  exact wpAny_truthy_bool ⟨q3.1,q3.2.1,rfl⟩) hm
theorem T0 {i j : Int}(h : Heap) (_ : Led c env g ns vs as os h) (a b : Value) (ha : isI i a) (hb : isI j b) : W c A (compareOp .Lt a b) (fun v h'=>h'=h∧v=.bool (decide (i < j))) noX h:=fun k=>by
 obtain⟨t,rfl⟩:=ha;obtain⟨u,rfl⟩:=hb;exact P.lt_int ⟨⟨rfl,rfl,rfl⟩,rfl,rfl⟩
theorem gt_ii {i j : Int}(h : Heap) (_ : Led c env g ns vs as os h) (a b : Value) (ha : isI i a) (hb : isI j b) : W c A (compareOp .Gt a b) (fun v h'=>h'=h∧v=.bool (decide (i > j))) noX h:=fun k=>by
 obtain⟨t,rfl⟩:=ha;obtain⟨u,rfl⟩:=hb;exact P.gt_int ⟨⟨rfl,rfl,rfl⟩,rfl,rfl⟩
theorem Md {i j : Int}(h : Heap) (_ : Led c env g ns vs as os h) (a b : Value) (ha : isI i a) (hb : isI j b) : W c A (compareOp .GtE a b) (fun v h'=>h'=h∧v=.bool (decide (i ≥ j))) noX h:=fun k=>by
 obtain⟨t,rfl⟩:=ha;obtain⟨u,rfl⟩:=hb;exact P.ge_int ⟨⟨rfl,rfl,rfl⟩,rfl,rfl⟩
theorem Sd {i j : Int}(h : Heap) (_ : Led c env g ns vs as os h) (a b : Value) (ha : isI i a) (hb : isI j b) : W c A (compareOp .Eq a b) (fun v h'=>h'=h∧v=.bool (i == j)) noX h:=fun k=>by
 obtain⟨t,rfl⟩:=ha;obtain⟨u,rfl⟩:=hb;exact P.eq_int ⟨⟨rfl,rfl,rfl⟩,rfl,rfl⟩
theorem ne_ii {i j : Int}(h : Heap) (_ : Led c env g ns vs as os h) (a b : Value) (ha : isI i a) (hb : isI j b) : W c A (compareOp .NotEq a b) (fun v h'=>h'=h∧v=.bool (i != j)) noX h:=fun k=>by
 obtain⟨t,rfl⟩:=ha;obtain⟨u,rfl⟩:=hb;exact P.ne_int ⟨⟨rfl,rfl,rfl⟩,rfl,rfl⟩
noncomputable abbrev Ml (c : Cx) (A : Around) (env : Env) (rest : List Stmt) (Q : Flow→Heap→Prop) (X : Value→Heap→Prop) : Flow→Heap→Prop:=fun f h'=>match f with | .next=>W c A (execs rest env) Q X h' | f=>Q f h'
inductive Less (I : Nat→Heap→Prop) (n : Nat) (h : Heap) : Prop
 | mk (m : Nat) (a : m < n) (b : I m h) : Less I n h
noncomputable abbrev LoopQ (N B : Heap→Prop) (Q : Flow→Heap→Prop) : Flow→Heap→Prop:=fun f h'=>match f with | .next | .cont=>N h' | .brk=>B h' | .ret v=>Q (.ret v) h'
theorem Yz {st : Stmt}{rest : List Stmt}{Q : Flow→Heap→Prop}(x : W c A (exec st env) (Ml c A env rest Q X) X h) : W c A (execs (st :: rest) env) Q X h:=fun k =>
 wpAny_execs_cons (wpAny_mono (x k) (fun f s' q=>by
  cases f <;> first | exact q | exact Zy q.2 q.1) fun o_ o_ q=>q)
theorem Zg {Q : Flow→Heap→Prop}(x : ∀ h,Led c env g ns vs as os h→Q .next h) : SB c A env [] g ns vs as os Q X:=fun h H k=>wpAny_execs_nil ⟨⟨rfl,rfl,rfl⟩,x h H⟩
theorem M1 {p : Pos}{rest : List Stmt}{Q : Flow→Heap→Prop}(x : ∀ h,Led c env g ns vs as os h→Q .brk h) : SB c A env (.Break p :: rest) g ns vs as os Q X:=fun h H=>Yz fun k=>wpAny_Break ⟨⟨rfl,rfl,rfl⟩,x h H⟩
theorem sb_cont {p : Pos}{rest : List Stmt}{Q : Flow→Heap→Prop}(x : ∀ h,Led c env g ns vs as os h→Q .cont h) : SB c A env (.Continue p :: rest) g ns vs as os Q X:=fun h H=>Yz fun k=>wpAny_Continue ⟨⟨rfl,rfl,rfl⟩,x h H⟩
theorem Y6 {e : Expr}{p : Pos}{rest : List Stmt}{Q : Flow→Heap→Prop}{R : Value→Prop}(x : EV c A env e g ns vs as os R) (y : ∀ h,Led c env g ns vs as os h→∀ v,R v→Q (.ret v) h) :
 SB c A env (.Return (some e) p :: rest) g ns vs as os Q X:=fun h H=>Yz fun k=>wpAny_Return_some (Jy (Q:=fun v h'=>Q (.ret v) h') (x h H) (fun v hv=>y h H v hv) k)
theorem J8 {e : Expr}{p : Pos}{rest : List Stmt}{Q : Flow→Heap→Prop}(x : EX c A env e g ns vs as os (fun v h'=>Q (.ret v) h') X) :
 SB c A env (.Return (some e) p :: rest) g ns vs as os Q X:=fun h H=>Yz fun k=>wpAny_Return_some (x h H k)
theorem Zp {x : Str}{v : Value}{Q : Unit→Heap→Prop}{v0 : Option Value}(i : Nat) (hn : ns[i]?=some x) (hi : vs[i]?=some v0) (H : Led c env g ns vs as os h)
 (k : ∀ h',Led c env g ns (vs.set i (some v)) as os h'→Q () h') : W c A (storeName env x v) Q X h:=fun kk =>
 wpAny_storeName_local (H.eo.kinds x (Nd hn)) H.fr.ns (fun h' a b=>⟨⟨rfl,rfl,rfl⟩,k h' (H.store hn (Nf hi).1 a b)⟩) (by rw[H.eo.knd];rfl)
theorem Zs {x : Str}{e : Expr}{p p' : Pos}{rest : List Stmt}{Q : Flow→Heap→Prop}{R : Value→Prop}{v0 : Option Value}(i : Nat) (hn : ns[i]?=some x) (hi : vs[i]?=some v0) (a : EV c A env e g ns vs as os R)
 (k : ∀ v,R v→SB c A env rest g ns (vs.set i (some v)) as os Q X) (hs : autoParam (swapsWith e (some (.Name x p')) p.line env=pure false) zR) : SB c A env (.Assign [.Name x p'] e p :: rest) g ns vs as os Q X:=fun h H=>Yz fun kk =>
 wpAny_Assign_Name (wpAny_mono (a h H kk) (fun v s1 q=>by
  rw[q.1.eq,q.2.1]
  exact Zp (Q:=fun o_ h'=>W c A (execs rest env) Q X h') i hn hi H (fun h' H'=>k v q.2.2 h' H') _) fun o_ o_ q=>⟨q.1,q.2.elim⟩) hs
theorem sb_setX {x : Str}{e : Expr}{p p' : Pos}{rest : List Stmt}{Q : Flow→Heap→Prop}{R : Value→Heap→Prop}(a : EX c A env e g ns vs as os R X)
 (k : ∀ v h,R v h→W c A (storeName env x v) (fun o_ h'=>W c A (execs rest env) Q X h') X h) (hs : autoParam (swapsWith e (some (.Name x p')) p.line env=pure false) zR) : SB c A env (.Assign [.Name x p'] e p :: rest) g ns vs as os Q X:=fun h H=>Yz fun kk =>
 wpAny_Assign_Name (wpAny_mono (a h H kk) (fun v s1 q=>Zy (k v _ q.2) q.1) fun o_ o_ q=>q) hs
theorem Ym {t : Expr}{b o rest : List Stmt}{p : Pos}{Q : Flow→Heap→Prop}{d : Bool}(x : TV c A env t g ns vs as os d)
 (y : d=true→SB c A env b g ns vs as os (Ml c A env rest Q X) X)
 (z : d=false→SB c A env o g ns vs as os (Ml c A env rest Q X) X) : SB c A env (.If t b o p :: rest) g ns vs as os Q X:=fun h H=>Yz fun kk =>
 wpAny_If (wpAny_mono (x h H kk) (fun v s1 q=>by
  rw[q.1.eq,q.2.1,q.2.2]
  cases d with
  | true=>exact y rfl h H _
  | false=>exact z rfl h H _) fun o_ o_ q=>⟨q.1,q.2.elim⟩)
theorem Ur {e : Expr}{p : Pos}{rest : List Stmt}{Q : Flow→Heap→Prop}(x : EX c A env e g ns vs as os (fun o_ h'=>W c A (execs rest env) Q X h') X)
 (hi : autoParam (interactive env=false) zR) (hs : autoParam (swapsWith e none p.line env=pure false) zR) : SB c A env (.Expr e p :: rest) g ns vs as os Q X:=fun h H=>Yz fun kk =>
 wpAny_Expr_any (x h H kk) hi hs
theorem Xs {t : Expr}{d : Bool}{Q : Bool→Heap→Prop}(x : TV c A env t g ns vs as os d) (H : Led c env g ns vs as os h) (k : Q d h) : W c A (isTrue t env (eval t env)) Q X h:=
 Jy (x h H) fun v e=>e ▸ k
theorem Sq {t : Expr}{b rest : List Stmt}{p : Pos}{Q : Flow→Heap→Prop}(I : Nat→Heap→Prop) (n : Nat) (h0 : ∀ h,Led c env g ns vs as os h→I n h)
 (turn : let I':=I;∀ n,let QL:=LoopQ (Less I' n) (W c A (execs rest env) Q X) Q;∀ h,I' n h→W c A (isTrue t env (eval t env)) (fun d h'=>if d=true then W c A (execs b env) QL noX h' else W c A (execs rest env) Q X h') noX h) : SB c A env (.While t b [] p :: rest) g ns vs as os Q X:=fun h H=>Yz fun kk=>by
 refine wpAny_While (codeAny_mono (codeAny_whileLoop (I:=fun n s=>Okk c s∧I n s.heap) (R:=fun r s'=>match r with | .ok f=>Okk c s'∧(match f with | .next=>W c A (execs rest env) Q X s'.heap | f=>Q f s'.heap) | .error _=>False) (fun n s hI=>?_) n ⟨⟨rfl,rfl,rfl⟩,h0 h H⟩) fun r s' q=>?_)
 ·rw[hI.1.eq]
  refine wpAny_mono (turn n s.heap hI.2 _) (fun d s1 q=>?_) fun o_ o_ q=>q.2.elim
  cases d with
  | true =>
   simp only[if_true] at q ⊢
   refine wpAny_mono (Zy q.2 q.1) (fun f s2 r=>?_) fun o_ o_ r=>r.2.elim
   cases f with
   | next=>obtain⟨m,a,b⟩:=r.2;exact⟨m,a,r.1,b⟩
   | cont=>obtain⟨m,a,b⟩:=r.2;exact⟨m,a,r.1,b⟩
   | brk=>exact r
   | ret v=>exact r
  | false =>
   simp only[Bool.false_eq_true,if_false] at q ⊢
   exact wpAny_execs_nil q
 ·cases r with
  | ok f=>cases f <;> exact q
  | error e=>exact q.elim
theorem Jf {t : Expr}{b rest : List Stmt}{p : Pos}{Q : Flow→Heap→Prop}(I : Nat→Heap→Prop) (J : Heap→Prop) (n : Nat) (h0 : ∀ h,Led c env g ns vs as os h→I n h)
 (turn : let I':=I;let J':=J;∀ n,let QL:=LoopQ (Less I' n) J' Q;∀ h,I' n h→W c A (isTrue t env (eval t env)) (fun d h'=>if d=true then W c A (execs b env) QL noX h' else J' h') noX h) (fin : ∀ h,J h→W c A (execs rest env) Q X h) : SB c A env (.While t b [] p :: rest) g ns vs as os Q X:=
 Sq I n h0 fun n h hI=>Zh (turn n h hI) (fun d h' q=>by
  cases d with
  | true =>
   simp only[if_true] at q ⊢
   refine Zh q (fun f h'' r=>?_) fun o_ o_ r=>r
   cases f <;> first | exact r | exact fin _ r
  | false=>simp only[Bool.false_eq_true,if_false] at q ⊢;exact fin _ q) fun o_ o_ q=>q
theorem Xh {α : Type}{l : List α}{i : Nat}{a : α}(h : l[i]?=some a) : l.set i a=l:=by
 induction l generalizing i with
 | nil=>cases h
 | cons x l ih=>cases i with
  | zero=>cases h;rfl
  | succ i=>exact congrArg (List.cons x) (ih (i:=i) h)
theorem Led.bs (H : Led c env g ns vs as os h) : Bs c h:=H.base.mono H.fr.keep
theorem Xm {x : Str}{p : Pos}{v : Value}(hx : env.scope.names.lookup x=some .globalImplicit) (hv : ∀ P,nsIn (K P) mainGlobals x=some (some v)) (hd : (x == ("__debug__" : Str))=false:=by decide) :
 EV c A env (.Name x p) g ns vs as os (·=v):=fun h H k=>by
 obtain⟨mg,hg⟩:=H.bs.gl
 exact Calls.Name_function_global H.eo.knd hx (Calls.loadGlobal_global (by rw[H.eo.glob];exact hg) (mg_of H.bs.kin hg (hv _)) ⟨⟨rfl,rfl,rfl⟩,rfl,rfl⟩) hd
theorem Zr {x : Str}{p : Pos}{v : Value}(hx : env.scope.names.lookup x=some .globalImplicit) (hn : ∀ P,nsIn (K P) mainGlobals x=some none) (hv : bootBuiltins x=some v) (hne : x≠"__name__":=by decide) (hd : (x == ("__debug__" : Str))=false:=by decide) :
 EV c A env (.Name x p) g ns vs as os (·=v):=fun h H k=>by
 obtain⟨mg,hg⟩:=H.bs.gl
 obtain⟨mb,hb,hb'⟩:=H.bs.bi
 exact Calls.Name_function_global H.eo.knd hx (Calls.loadGlobal_builtin (by rw[H.eo.glob];exact hg) (mg_none_of H.bs.kin hg (hn _)) (by rw[H.eo.bi];exact hb) ((hb' x hne).trans hv) ⟨⟨rfl,rfl,rfl⟩,rfl,rfl⟩) hd
noncomputable def EVs (c : Cx) (A : Around) (env : Env) (es : List Expr) (g : Bas) (ns : List Str) (vs : List (Option Value)) (as : List Addr) (os : List Sp) (R : List Value→Prop) : Prop:=
 ∀ pos h,Led c env g ns vs as os h→W c A (spliced (backTo pos (starEach es env))) (fun v h'=>h'=h∧R v) noX h
theorem Ux : EVs c A env [] g ns vs as os (·=[]):=fun pos h H k=>wpAny_items_nil ⟨⟨rfl,rfl,rfl⟩,rfl,rfl⟩
theorem Y5 {e : Expr}{es : List Expr}{R1 : Value→Prop}{R2 : List Value→Prop}(x : EV c A env e g ns vs as os R1) (y : EVs c A env es g ns vs as os R2)
 (he : autoParam (starEach (e :: es) env=(false,eval e env) :: starEach es env) zR) : EVs c A env (e :: es) g ns vs as os (fun l=>Ex2 fun v l'=>An3 (l=v :: l') (R1 v) (R2 l')):=fun pos h H k =>
 wpAny_items_cons (wpAny_mono (x h H k) (fun v s1 q=>by
  rw[q.1.eq,q.2.1]
  exact wpAny_mono (y pos h H _) (fun l s2 q2=>⟨q2.1,q2.2.1,v,l,rfl,q.2.2,q2.2.2⟩) fun o_ o_ q=>q) fun o_ o_ q=>q) he
noncomputable def Jc (a : Addr) : Prop:=∀ P,keepIn (K P) (.ref a)=true
theorem w_call {f : Str}{fp pos : Pos}{e : Expr}{es : List Expr}{a : Addr}{R : List Value→Prop}{Q : Value→Heap→Prop}(H : Led c env g ns vs as os h) (hf : EV c A env (.Name f fp) g ns vs as os (·=.ref a)) (hk : Jc a)
 (x : EVs c A env (e :: es) g ns vs as os R) (y : ∀ l,R l→W c A (call (.ref a) l) Q X h)
 (he : autoParam (starEach (e :: es) env=(false,eval e env) :: starEach es env) zR) (hplain : autoParam ((backTo pos (starEach es env)).any (·.1)=false) zR) :
 W c A (eval (.Call (.Name f fp) (e :: es) [] pos) env) Q X h:=fun k =>
 wpAny_Call_Name_kw (wpAny_mono (hf h H k) (fun v s1 q=>by
  rw[q.1.eq,q.2.1,q.2.2]
  refine callWith_K (first:=[]) H.bs.kin (hk _) (wpAny_mono (x pos h H _) (fun l s2 q2=>⟨?_,?_⟩) fun o_ o_ q=>⟨q.1,q.2.elim⟩) he hplain
  ·rw[q2.2.1];exact H.bs.kin
  ·rw[q2.1.eq,q2.2.1];exact y l q2.2.2 _) fun o_ o_ q=>⟨q.1,q.2.elim⟩)
theorem ex_call0 {f : Str}{fp pos : Pos}{a : Addr}{Q : Value→Heap→Prop}(hf : EV c A env (.Name f fp) g ns vs as os (·=.ref a)) (hk : Jc a)
 (y : ∀ h,Led c env g ns vs as os h→W c A (call (.ref a) []) Q X h) : EX c A env (.Call (.Name f fp) [] [] pos) g ns vs as os Q X:=fun h H k =>
 wpAny_Call_Name_kw (wpAny_mono (hf h H k) (fun v s1 q=>by
  rw[q.1.eq,q.2.1,q.2.2]
  exact callWith_K0 (first:=[]) (K:=K c.w.params) H.bs.kin (hk _) (y h H _)) fun o_ o_ q=>⟨q.1,q.2.elim⟩)
theorem w_callb {f : Str}{fp pos : Pos}{e : Expr}{es : List Expr}{id : String}{R : List Value→Prop}{Q : Value→Heap→Prop}(H : Led c env g ns vs as os h) (hf : EV c A env (.Name f fp) g ns vs as os (·=.builtin id))
 (x : EVs c A env (e :: es) g ns vs as os R) (y : ∀ l,R l→W c A (call (.builtin id) l) Q X h)
 (he : autoParam (starEach (e :: es) env=(false,eval e env) :: starEach es env) zR) (hplain : autoParam ((backTo pos (starEach es env)).any (·.1)=false) zR) :
 W c A (eval (.Call (.Name f fp) (e :: es) [] pos) env) Q X h:=fun k =>
 wpAny_Call_Name_kw (wpAny_mono (hf h H k) (fun v s1 q=>by
  rw[q.1.eq,q.2.1,q.2.2]
  have x':=x pos h H s1.toks
  show wpAny (mdl c) A (callWith pos (.builtin id) [] (backTo pos (starEach (e :: es) env)) []) _ _ _
  rw[he] at x' ⊢
  exact Calls.callWith_builtin (first:=[]) (by show (false || (backTo pos (starEach es env)).any (·.1))=false;rw[hplain];rfl) (Calls.evalArgs_plain (wpAny_mono x' (fun l s2 q2=>by
   rw[q2.1.eq,q2.2.1];exact y l q2.2.2 _) fun o_ o_ q=>⟨q.1,q.2.elim⟩))) fun o_ o_ q=>⟨q.1,q.2.elim⟩)
theorem At.isList {a : Addr}{l : List Value}(x : At h a (.li l)) : h.IsList a l.toArray:=by obtain⟨o,e,n,rfl⟩:=x;exact⟨_,e,rfl,n,rfl⟩
theorem Yc {l i : Expr}{p : Pos}{a : Addr}{xs : List Value}{k : Int}{v : Value}(x : EV c A env l g ns vs as os (·=.ref a)) (y : EV c A env i g ns vs as os (isI k)) (z : Loc g as os a (.li xs))
 (h0 : 0≤k) (hz : xs.length < 2 ^ 63) (hv : xs[k.toNat]?=some v)
 (hs : autoParam (∀ t,subscripted i false (.ref a) (.int k t)=operate [.ref a,.int k t] (getItem (.ref a) (.int k t))) zV) : EV c A env (.Subscript l i p) g ns vs as os (·=v):=fun h H kk=>by
 refine Subscript_ (W_two (t:=fun a b=>subscriptTail l i a b) x y H (fun a' b ha hb k2=>?_) kk)
 obtain⟨t,rfl⟩:=hb
 subst ha
 have hl:=(H.get z).isList
 have hk:=(Nf hv).1
 exact tail_any (s:=stt c h k2) (Heap.IsList.typeIs (s:=stt c h k2) hl) slot_list_getitem.lookup (wpAny_getItem_list (s:=stt c h k2) hl h0 (xl hk hz) (by simpa using hv) ⟨⟨rfl,rfl,rfl⟩,rfl,rfl⟩) (hs t)
theorem Uh {f : Str}{fp pos : Pos}{e : Expr}{a : Addr}{xs : List Value}(hf : EV c A env (.Name f fp) g ns vs as os (·=.builtin "len")) (x : EV c A env e g ns vs as os (·=.ref a)) (z : Loc g as os a (.li xs)) (hz : xs.length < 2 ^ 63)
 (he : autoParam (starEach [e] env=(false,eval e env) :: starEach [] env) zR) : EV c A env (.Call (.Name f fp) [e] [] pos) g ns vs as os (isI xs.length):=by
 refine fun h H=>w_callb H hf (Y5 x Ux he) (fun l q k=>?_) he rfl
 obtain⟨v,l',rfl,rfl,rfl⟩:=q
 exact Calls.call_len_list (s:=stt c h k) (H.get z).isList (by simp;exact Int.ofNat_lt.mpr hz) ⟨⟨rfl,rfl,rfl⟩,rfl,_,by simp;rfl⟩
noncomputable def lt2 (x i y j : Int) : Bool:=decide (x < y) || (x == y && decide (i < j))
theorem tuple_lt2 (l b : Addr) (x i y j : Int) (t1 t2 t3 t4 : Tok) (n n2 : Nat) (dd dd2 : Option Addr) (sl sl2 : Array (Option Value)) :
 Meets (Builtin.«tuple.__lt__» ⟨[.ref l,.ref b],[]⟩)
  (fun A R s=>s.heap.get? l=some { cls:=.type "tuple",dict:=dd,data:=.seq #[.int x t1,.int i t2] n,slots:=sl }∧s.heap.get? b=some { cls:=.type "tuple",dict:=dd2,data:=.seq #[.int y t3,.int j t4] n2,slots:=sl2 } ∧
   R (.ok (.ret (.bool (lt2 x i y j)))) s):=
 .of_wp fun prog w A R s h=>by
  obtain⟨hp,g,d,tk,os⟩:=s;obtain⟨hl,hb,h⟩:=h
  have f2:=AutoSeq1.sub_tuple_tuple
  have hc : ∀ (a b : Int) (t u : Tok) (Q : Value→Shared→Prop) (E : Value→Shared→Prop),Q (.bool (decide (a < b))) ⟨hp,g,d,tk,os⟩→wpAny (model prog w) A.in1 (richCompare .Lt (.int a t) (.int b u)) Q E ⟨hp,g,d,tk,os⟩:=fun a b t u Q E h=>P.lt_int h
  by_cases hxy : x=y
  ·subst hxy
   have e1 : (x == x)=true:=by simp
   by_cases hij : i=j
   ·subst hij
    have e2 : (i == i)=true:=by simp
    wp_walk using wpAny_loadPart' hl,wpAny_loadPart' hb,wpAny_eqBool_int
    exact⟨_,rfl,by simpa [lt2,Builtin.Tuple.tupleCompareSizes] using h⟩
   ·have e2 : (i == j)=false:=by simpa using hij
    wp_walk using wpAny_loadPart' hl,wpAny_loadPart' hb,wpAny_eqBool_int,hc
    exact⟨_,rfl,by simpa [lt2] using h⟩
  ·have e1 : (x == y)=false:=by simpa using hxy
   wp_walk using wpAny_loadPart' hl,wpAny_loadPart' hb,wpAny_eqBool_int,hc
   exact⟨_,rfl,by simpa [lt2,e1] using h⟩
noncomputable abbrev tu2 (x i : Int) (t u : Tok) : Sp:=.tu [.int x t,.int i u]
theorem lt_tt {a b : Addr}{x i y j : Int}{t1 t2 t3 t4 : Tok}(hu : A.units < cLine) (za : Loc g as os a (tu2 x i t1 t2)) (zb : Loc g as os b (tu2 y j t3 t4)) (h : Heap) (H : Led c env g ns vs as os h) (v1 v2 : Value) (h1 : v1=.ref a) (h2 : v2=.ref b) :
 W c A (compareOp .Lt v1 v2) (fun v h'=>h'=h∧v=.bool (lt2 x i y j)) noX h:=fun k=>by
 subst h1;subst h2
 obtain⟨⟨c1,d1,dt1,s1⟩,e1,hc1,n1,hd1⟩:=H.get za
 obtain⟨⟨c2,d2,dt2,s2⟩,e2,hc2,n2,hd2⟩:=H.get zb
 simp only at hc1 hd1 hc2 hd2
 subst hc1;subst hd1;subst hc2;subst hd2
 exact wpAny_richCompare_same_room (op:=.Lt) (T:="tuple") (s:=stt c h k) ⟨_,e1,rfl⟩ ⟨_,e2,rfl⟩ F.slot_tuple_lt
  (call_meets F.slot_tuple_lt ⟨_,e1,rfl⟩ F.entry_tuple_lt (F.args_tuple_lt_2 _ _) (tuple_lt2 a b x i y j t1 t2 t3 t4 n1 n2 d1 d2 s1 s2) ⟨e1,e2,show (_≠_∧_) from ⟨(by intro q;cases q),⟨rfl,rfl,rfl⟩,rfl,rfl⟩⟩) hu
theorem w_meth {o : Expr}{name : Str}{apos pos : Pos}{e : Expr}{es : List Expr}{T id : String}{v : Value}{R : List Value→Prop}{Q : Value→Heap→Prop}(H : Led c env g ns vs as os h)
 (x : EV c A env o g ns vs as os (·=v)) (pa : PlainAttrs T) (slot : Slot T name id) (hty : typeOf (.builtin id)=pure (.type "method_descriptor"))
 (hT : ∀ k,(stt c h k).TypeIs v T) (hd : ∀ a,v=.ref a→∃ ob,h.get? a=some ob∧ob.dict=none)
 (xs : EVs c A env (e :: es) g ns vs as os R) (y : ∀ l,R l→W c A (call (.builtin id) (v :: l)) Q X h)
 (he : autoParam (starEach (e :: es) env=(false,eval e env) :: starEach es env) zR) (hplain : autoParam ((backTo pos (starEach es env)).any (·.1)=false) zR)
 (hbase : autoParam (attributeBase o name env (eval o env)=eval o env) zR)
 (hfew : autoParam (((backTo pos (starEach (e :: es) env)).all (fun x=>!x.1) && (backToKw pos (keywordEach [] env)).all (fun x=>x.1.isSome)
  && decide ((e :: es).length + ([] : List Keyword).length + (if ([] : List Keyword).isEmpty then 0 else 1) < 30))=true) zR)
 (hline : autoParam ((apos.endLine == pos.line)=true) zR) : W c A (eval (.Call (.Attribute o name apos) (e :: es) [] pos) env) Q X h:=fun k =>
 wpAny_Call_method hbase hfew hline pa slot hty (wpAny_mono (x h H k) (fun ov s1 q=>by
  obtain⟨q1,q2,q3⟩:=q
  subst q3
  rw[q1.eq,q2]
  refine⟨hT _,hd,?_⟩
  have x':=xs pos h H s1.toks
  rw[he] at x' ⊢
  exact Calls.callWith_builtin (first:=[ov]) (by show (false || (backTo pos (starEach es env)).any (·.1))=false;rw[hplain];rfl) (Calls.evalArgs_plain (wpAny_mono x' (fun l s2 q2=>by
   rw[q2.1.eq,q2.2.1];exact y l q2.2.2 _) fun o_ o_ q=>⟨q.1,q.2.elim⟩))) fun o_ o_ q=>⟨q.1,q.2.elim⟩)
theorem Tw {o : Expr}{name : Str}{apos pos : Pos}{T id : String}{v : Value}{Q : Value→Heap→Prop}(H : Led c env g ns vs as os h)
 (x : EV c A env o g ns vs as os (·=v)) (pa : PlainAttrs T) (slot : Slot T name id) (hty : typeOf (.builtin id)=pure (.type "method_descriptor"))
 (hT : ∀ k,(stt c h k).TypeIs v T) (hd : ∀ a,v=.ref a→∃ ob,h.get? a=some ob∧ob.dict=none)
 (y : W c A (call (.builtin id) [v]) Q X h)
 (hbase : autoParam (attributeBase o name env (eval o env)=eval o env) zR)
 (hline : autoParam ((apos.endLine == pos.line)=true) zR) : W c A (eval (.Call (.Attribute o name apos) [] [] pos) env) Q X h:=fun k =>
 wpAny_Call_method hbase rfl hline pa slot hty (wpAny_mono (x h H k) (fun ov s1 q=>by
  obtain⟨q1,q2,q3⟩:=q
  subst q3
  rw[q1.eq,q2]
  exact⟨hT _,hd,Calls.callWith_builtin (first:=[ov]) rfl (PySem.evalArgs_none (y _))⟩) fun o_ o_ q=>⟨q.1,q.2.elim⟩)
theorem At.li {a : Addr}{l : List Value}(x : At h a (.li l)) : ∃ n,h.get? a=some (listOf l.toArray n):=by obtain⟨o,e,n,hd⟩:=x;exact⟨n,hd ▸ e⟩
theorem Led.upd_li (H : Led c env g ns vs as os h) {i : Nat}{a : Addr}{l l' : List Value}{n : Nat}{f : Array Value→Array Value}(ha : as[i]?=some a) (ho : os[i]?=some (.li l)) (hn : h.get? a=some (listOf l.toArray n)) (e : f l.toArray=l'.toArray) :
 Led c env g ns vs as (os.set i (.li l')) (h.update a (Obj.mapSeq f)):=by
 refine H.upd ha ho (Heap.SameBut.update ..) ⟨_,Heap.get?_update_self _ hn rfl,?_⟩
 refine⟨if l'.length == l.length then n else n + 1,?_⟩
 show (⟨.type "list",none,.seq (f l.toArray) (if (f l.toArray).size == l.toArray.size then n else n + 1),#[]⟩ : Obj)=_
 rw[e];simp
theorem w_append {o e : Expr}{apos pos : Pos}{i : Nat}{a : Addr}{l : List Value}{R : Value→Prop}{Q : Value→Heap→Prop}(H : Led c env g ns vs as os h) (x : EV c A env o g ns vs as os (·=.ref a)) (ha : as[i]?=some a) (ho : os[i]?=some (.li l)) (hz : l.length≤sizeLine)
 (y : EV c A env e g ns vs as os R) (k : ∀ v h',R v→Led c env g ns vs as (os.set i (.li (l ++ [v]))) h'→Q .none h')
 (he : autoParam (starEach [e] env=(false,eval e env) :: starEach [] env) zR) (hbase : autoParam (attributeBase o "append" env (eval o env)=eval o env) zR)
 (hfew : autoParam (((backTo pos (starEach [e] env)).all (fun x=>!x.1) && (backToKw pos (keywordEach [] env)).all (fun x=>x.1.isSome)
  && decide ([e].length + ([] : List Keyword).length + (if ([] : List Keyword).isEmpty then 0 else 1) < 30))=true) zR)
 (hline : autoParam ((apos.endLine == pos.line)=true) zR) : W c A (eval (.Call (.Attribute o "append" apos) [e] [] pos) env) Q X h:=by
 obtain⟨n,hn⟩:=(H.at_ i a _ ha ho).li
 refine w_meth H x F.plainAttrs_list F.slot_list_append F.type_list_append (fun k=>⟨_,hn,rfl⟩) (fun b hb=>by cases hb;exact⟨_,hn,rfl⟩) (Y5 y Ux he) (fun l' ⟨v,r,e1,e2,e3⟩ kk=>?_) he rfl hbase hfew hline
 subst e1;subst e3
 exact call_meets (s:=stt c h kk) F.slot_list_append ⟨_,hn,rfl⟩ F.entry_list_append (F.args_list_append_2 _ _) (list_append a l.toArray n v (by simpa using hz)) ⟨hn,⟨⟨rfl,rfl,rfl⟩,k v _ e2 (H.upd_li ha ho hn (by simp))⟩⟩
theorem w_pop {o : Expr}{apos pos : Pos}{i : Nat}{a : Addr}{l : List Value}{v : Value}{Q : Value→Heap→Prop}(H : Led c env g ns vs as os h) (x : EV c A env o g ns vs as os (·=.ref a)) (ha : as[i]?=some a) (ho : os[i]?=some (.li (l ++ [v]))) (hz : l.length < sizeLine)
 (k : ∀ h',Led c env g ns vs as (os.set i (.li l)) h'→Q v h')
 (hbase : autoParam (attributeBase o "pop" env (eval o env)=eval o env) zR)
 (hline : autoParam ((apos.endLine == pos.line)=true) zR) : W c A (eval (.Call (.Attribute o "pop" apos) [] [] pos) env) Q X h:=by
 obtain⟨n,hn⟩:=(H.at_ i a _ ha ho).li
 refine Tw H x F.plainAttrs_list F.slot_list_pop F.type_list_pop (fun k=>⟨_,hn,rfl⟩) (fun b hb=>by cases hb;exact⟨_,hn,rfl⟩) (fun kk=>?_) hbase hline
 refine call_meets (s:=stt c h kk) F.slot_list_pop ⟨_,hn,rfl⟩ F.entry_list_pop (F.args_list_pop_1 _) (PySem.MeetsSeq.list_pop_last a (l ++ [v]).toArray n v (by simp) (by simp;exact hz)) ⟨hn,⟨⟨rfl,rfl,rfl⟩,k _ (H.upd_li ha ho hn ?_)⟩⟩
 apply Array.toList_inj.mp
 simp
 rw[List.eraseIdx_append_of_length_le (Nat.le_refl _)];simp
theorem J7 {o i e : Expr}{p p' : Pos}{rest : List Stmt}{j : Nat}{a : Addr}{l : List Value}{n : Int}{R : Value→Prop}{Q : Flow→Heap→Prop}(y : EV c A env e g ns vs as os R) (x : EV c A env o g ns vs as os (·=.ref a)) (z : EV c A env i g ns vs as os (isI n))
 (ha : as[j]?=some a) (ho : os[j]?=some (.li l)) (h0 : 0≤n) (h1 : n.toNat < l.length) (hz : l.length < 2 ^ 63) (k : ∀ v,R v→SB c A env rest g ns vs as (os.set j (.li (l.set n.toNat v))) Q X)
 (hs : autoParam (swapsWith e (some (.Subscript o i p')) p.line env=pure false) zR) : SB c A env (.Assign [.Subscript o i p'] e p :: rest) g ns vs as os Q X:=fun h H=>Yz fun kk=>by
 refine wpAny_Assign_Subscript (wpAny_mono (y h H kk) (fun v s1 q=>?_) fun o_ o_ q=>⟨q.1,q.2.elim⟩) hs
 rw[q.1.eq,q.2.1]
 refine wpAny_mono (x h H _) (fun ov s2 q2=>?_) fun o_ o_ q=>⟨q.1,q.2.elim⟩
 rw[q2.1.eq,q2.2.1,q2.2.2]
 refine wpAny_mono (z h H _) (fun iv s3 q3=>?_) fun o_ o_ q=>⟨q.1,q.2.elim⟩
 obtain⟨r1,r2,t,r3⟩:=q3
 rw[r1.eq,r2,r3]
 obtain⟨m,hm⟩:=(H.at_ j a _ ha ho).li
 refine ki_setAt hm h0 (xl h1 hz) (by simp;exact xk h1) ⟨⟨rfl,rfl,rfl⟩,k v q.2.2 _ (H.upd_li ha ho hm ?_)⟩
 apply Array.toList_inj.mp
 simp
noncomputable abbrev Xl (s : Stmt) (qual : PySem.Str) (dflt pm code : Value) : FuncData:={ name:=fnN s,qualname:=qual,params:=fnA s,body:=.stmts (fnB s),scope:=fnS s,globals:=3,closure:=[],defaults:=dflt,kwdefaults:=.none,pyModule:=pm,code:=code }
structure FnK (f : Addr) (fd : FuncData) (body : List Stmt) (ns : List Str) : Prop where
 obj : ∀ P,(K P).lookup f=some ⟨.type "function",none,.func fd,#[]⟩
 code : ∀ P,codeIn (K P) fd.code fd.qualname=true
 body : fd.body=.stmts body
 knd : fd.scope.kind=.function
 kinds : ∀ x∈ns,fd.scope.names.lookup x=some .local
 nd : ns.Nodup
 dbg : Str.ofString "__debug__" ∉ ns
 glob : fd.globals=mainGlobals
 bi : fd.builtins=builtinsNs
 co : fd.scope.isCoroutine=false
 gen : fd.scope.isGenerator=false
theorem FnK.eo {f : Addr}{fd : FuncData}{body : List Stmt}{ns : List Str}(F : FnK f fd body ns) (L : Addr) : EO (callEnv fd L f) ns:=⟨F.knd,F.kinds,F.nd,F.dbg,F.glob,F.bi⟩
noncomputable def Js : Flow→Value
 | .ret v=>v
 | _=>.none
theorem Xi {ps : List Str}{xs : List Value}{rs : List Str}(hl : ps.length=xs.length) (hn : (ps ++ rs).Nodup) : Ja (ps ++ rs) (xs.map some ++ List.replicate rs.length none)=fun y=>(ps.zip xs).reverse.lookup y:=by
 induction ps generalizing xs with
 | nil=>cases xs with
  | cons x xs=>cases hl
  | nil =>
   funext y
   simp
   induction rs with
   | nil=>rfl
   | cons r rs ih =>
    simp only[List.replicate_succ,List.length_cons,Ja]
    rw[ih (List.nodup_cons.mp hn).2]
    simp
 | cons p ps ih=>cases xs with
  | nil=>cases hl
  | cons x xs =>
  have ih:=ih (xs:=xs) (Nat.succ.inj hl) (List.nodup_cons.mp hn).2
  funext y
  simp only[List.cons_append,List.map_cons,Ja,ih,List.zip_cons_cons,List.reverse_cons,List.lookup_append,List.lookup_cons,List.lookup_nil]
  by_cases hy : y=p
  ·subst hy
   have : (ps.zip xs).reverse.lookup y=none:=by
    rw[List.lookup_eq_none_iff]
    intro q hq
    have : q.1∈ps:=(List.of_mem_zip (List.mem_reverse.mp hq)).1
    simp only[ne_eq,bne_iff_ne]
    intro e
    exact (List.nodup_cons.mp hn).1 (List.mem_append_left _ (e ▸ this))
   simp[this]
  ·have : (y == p)=false:=by simpa using hy
   simp[this,hy]
theorem Us {f : Addr}{fd : FuncData}{body : List Stmt}{ps rs : List Str}{xs : List Value}{Q : Value→Heap→Prop}(H : Led c env g ns vs as os h) (F : FnK f fd body (ps ++ rs)) (hroom : A.depth < recursionLimit)
 (hb : bindArgs fd ⟨xs,[]⟩=pure (ps.zip xs)) (hl : ps.length=xs.length) (hcell : ∀ x∈fd.scope.names,x.2≠.cell)
 (k : ∀ L h₁,Led c (callEnv fd L f) (subB g h env ns vs as) (ps ++ rs) (xs.map some ++ List.replicate rs.length none) as os h₁ →
  W c (A.deeper (callEnv fd L f)) (execs body (callEnv fd L f)) (fun fl h₂=>Q (Js fl) h₂) noX h₁) : W c A (call (.ref f) xs) Q X h:=Xy fun kk=>by
 refine codeAny_call_def (s:=stt c h kk) (fd:=fd) (body:=body) (binds:=ps.zip xs) hroom (H.kin _ _ (F.obj _)) rfl (H.bs.lim) (codeRec_of H.kin (F.code _)) F.body (.of_eq hb) hcell (fun x hx=>F.kinds _ (List.mem_append_left _ (List.of_mem_zip hx).1)) (fun h₁ hn hk=>?_) F.co F.gen F.knd
 have L1:=H.enter (F.eo h.objs.size) rfl (by rw[Xi hl F.nd];exact hn) hk
 refine wpAny_mono (k _ _ L1 _) (fun fl s' q=>?_) fun o_ o_ q=>q.2.elim
 cases fl <;> exact q
theorem TV.cast {x : Expr}{d d' : Bool}(a : TV c A env x g ns vs as os d) (e : d=d') : TV c A env x g ns vs as os d':=e ▸ a
theorem Yo {x : Expr}{p : Pos}{d : Bool}(a : TV c A env x g ns vs as os d) : TV c A env (.UnaryOp .Not x p) g ns vs as os (!d):=fun h H k =>
 wpAny_isTrue_Not (wpAny_mono (a h H k) (fun b s' q=>⟨q.1,q.2.1,by rw[q.2.2]⟩) fun o_ o_ q=>q)
noncomputable def ATV (c : Cx) (A : Around) (env : Env) (op : BoolOp) (es : List Expr) (g : Bas) (ns : List Str) (vs : List (Option Value)) (as : List Addr) (os : List Sp) (b : Bool) : Prop:=
 ∀ h,Led c env g ns vs as os h→W c A (allTrue op es env) (fun v h'=>h'=h∧v=b) noX h
theorem Mc : ATV c A env .And [] g ns vs as os true:=fun h H k=>wpAny_allTrue_And_nil ⟨⟨rfl,rfl,rfl⟩,rfl,rfl⟩
theorem atv_or0 : ATV c A env .Or [] g ns vs as os false:=fun h H k=>wpAny_allTrue_Or_nil ⟨⟨rfl,rfl,rfl⟩,rfl,rfl⟩
theorem Ye {x : Expr}{es : List Expr}{d e : Bool}(a : TV c A env x g ns vs as os d) (b : d=true→ATV c A env .And es g ns vs as os e) : ATV c A env .And (x :: es) g ns vs as os (d && e):=fun h H k =>
 wpAny_allTrue_And_cons (wpAny_mono (a h H k) (fun v s' q=>by
  rw[q.1.eq,q.2.1,q.2.2]
  cases d with
  | true=>exact b rfl h H _
  | false=>exact⟨⟨rfl,rfl,rfl⟩,rfl,rfl⟩) fun o_ o_ q=>q)
theorem atv_or {x : Expr}{es : List Expr}{d e : Bool}(a : TV c A env x g ns vs as os d) (b : d=false→ATV c A env .Or es g ns vs as os e) : ATV c A env .Or (x :: es) g ns vs as os (d || e):=fun h H k =>
 wpAny_allTrue_Or_cons (wpAny_mono (a h H k) (fun v s' q=>by
  rw[q.1.eq,q.2.1,q.2.2]
  cases d with
  | false=>exact b rfl h H _
  | true=>exact⟨⟨rfl,rfl,rfl⟩,rfl,rfl⟩) fun o_ o_ q=>q)
theorem Xq {op : BoolOp}{es : List Expr}{p : Pos}{d : Bool}(a : ATV c A env op es g ns vs as os d) : TV c A env (.BoolOp op es p) g ns vs as os d:=fun h H k=>wpAny_isTrue_BoolOp (a h H k)
theorem Ys {x y : Expr}{p : Pos}{d e : Bool}(a : TV c A env x g ns vs as os d) (b : d=true→TV c A env y g ns vs as os e) : TV c A env (.BoolOp .And [x,y] p) g ns vs as os (d && e):=by
 have:=Xq (p:=p) (Ye a fun q=>Ye (b q) fun o_=>Mc)
 rwa [Bool.and_true] at this
theorem tv_or2 {x y : Expr}{p : Pos}{d e : Bool}(a : TV c A env x g ns vs as os d) (b : d=false→TV c A env y g ns vs as os e) : TV c A env (.BoolOp .Or [x,y] p) g ns vs as os (d || e):=by
 have:=Xq (p:=p) (atv_or a fun q=>atv_or (b q) fun o_=>atv_or0)
 rwa [Bool.or_false] at this
theorem Yk {e : Expr}{R : Value→Prop}{d : Bool}(x : EV c A env e g ns vs as os R) (y : ∀ h,Led c env g ns vs as os h→∀ v,R v→W c A (truthy v) (fun b h'=>h'=h∧b=d) noX h)
 (he : autoParam (isTrue e env (eval e env)=(do let v ← eval e env;standAt e.pos;holding [v] (truthy v))) zR) : TV c A env e g ns vs as os d:=fun h H k =>
 wpAny_isTrue_value (wpAny_mono (x h H k) (fun v s' q=>by
  rw[q.1.eq,q.2.1]
  exact y h H v q.2.2 _) fun o_ o_ q=>q) he
theorem sb_ifJ {t : Expr}{b o rest : List Stmt}{p : Pos}{Q : Flow→Heap→Prop}{d : Bool}(J : Heap→Prop) (x : TV c A env t g ns vs as os d)
 (y : d=true→SB c A env b g ns vs as os (fun f h'=>f=.next∧J h') X) (z : d=false→SB c A env o g ns vs as os (fun f h'=>f=.next∧J h') X)
 (k : ∀ h,J h→W c A (execs rest env) Q X h) : SB c A env (.If t b o p :: rest) g ns vs as os Q X:=
 Ym x (fun q h H=>Zh (y q h H) (fun f h' r=>by obtain⟨rfl,r⟩:=r;exact k h' r) fun o_ o_ r=>r) (fun q h H=>Zh (z q h H) (fun f h' r=>by obtain⟨rfl,r⟩:=r;exact k h' r) fun o_ o_ r=>r)
theorem tr_list {a : Addr}{l : List Value}(z : Loc g as os a (.li l)) (hz : l.length < 2 ^ 63) (h : Heap) (H : Led c env g ns vs as os h) (v : Value) (hv : v=.ref a) : W c A (truthy v) (fun b h'=>h'=h∧b=!l.isEmpty) noX h:=fun k=>by
 subst hv
 refine wpAny_truthy_list (s:=stt c h k) (H.get z).isList (by simp;exact Int.ofNat_lt.mpr hz) ⟨⟨rfl,rfl,rfl⟩,rfl,?_⟩
 cases l <;> simp
theorem Xu {i n : Nat}(h : i < n) : (i - 1) / 2 < n:=S5 (S7 (Nat.div_le_self _ _) (Nat.sub_le _ _)) h
theorem Y4 {i : Nat}(h : 0 < i) : (i - 1) / 2 < i:=S5 (Nat.div_le_self _ _) (Nat.sub_lt h Nat.one_pos)
theorem Tb {i j : Nat}(h : 0 < i) (e : (i - 1) / 2=j) : j≠i:=fun q=>Nat.lt_irrefl _ (q ▸ e ▸ Y4 h)
theorem par_l (p : Nat) : (2 * p + 1 - 1) / 2=p:=Nat.mul_div_cancel_left p Nat.two_pos
theorem par_r (p : Nat) : (2 * p + 2 - 1) / 2=p:=(Nat.mul_add_div Nat.two_pos p 1)
theorem par_or {i p : Nat}(h : 0 < i) (e : (i - 1) / 2=p) : i=2 * p + 1∨i=2 * p + 2:=by
 cases i with
 | zero=>cases h
 | succ i=>exact (Nat.mod_two_eq_zero_or_one i).imp (fun q=>by rw[← Nat.div_add_mod i 2,q,← e];rfl) fun q=>by rw[← Nat.div_add_mod i 2,q,← e];rfl
theorem par_lt2 {a b n : Nat}(h : a < n) (k : b < a) : n - a < n - b:=Nat.sub_lt_sub_left (S8 k h) k
theorem par_leaf {i p n : Nat}(h : 0 < i) (e : (i - 1) / 2=p) (hi : i < n) (k : ¬2 * p + 1 < n) : False:=by
 rcases par_or h e with rfl | rfl
 ·exact k hi
 ·exact k (Nat.lt_of_succ_lt hi)
theorem Mv (p k : Nat) : p < 2 * p + (k + 1):=S5 (Nat.le_mul_of_pos_left p Nat.two_pos) (Nat.lt_add_of_pos_right k.succ_pos)
theorem par_fd {p : Nat}(h : 0 < p) : ((p : Int) - 1).fdiv (2 ^ (1 : Int).toNat)=((p - 1) / 2 : Nat):=by
 rw[show (2 : Int) ^ (1 : Int).toNat=2 from rfl,← Int.ofNat_one,← Int.ofNat_sub h];exact (Int.ofNat_fdiv (p - 1) 2).symm
noncomputable def key (g : Heap) (v : Value) : Int × Int:=match v with
 | .ref a=>match g.get? a with
  | some ⟨_,_,.seq its _,_⟩=>match its.toList with
   | [.int x _,.int i _]=>(x,i)
   | _=>(0,0)
  | _=>(0,0)
 | _=>(0,0)
noncomputable def Y2 (g : Heap) (v : Value) : Prop:=∃ a x i t u,v=.ref a∧At g a (tu2 x i t u)
theorem Jg {g : Heap}{a : Addr}{x i : Int}{t u : Tok}(z : At g a (tu2 x i t u)) : key g (.ref a)=(x,i):=by
 obtain⟨⟨c,d,dt,s⟩,e,o_,n,hd⟩:=z
 simp only at hd;subst hd
 simp[key,e]
theorem Y2.mono {g g' : Heap}{v : Value}(z : Y2 g v) (k : g.StaysIn g') : Y2 g' v:=by obtain⟨a,x,i,t,u,e,r⟩:=z;exact⟨a,x,i,t,u,e,r.mono fun o e=>k _ _ e⟩
theorem Y2.key {g g' : Heap}{v : Value}(z : Y2 g v) (k : g.StaysIn g') : key g' v=key g v:=by
 obtain⟨a,x,i,t,u,rfl,r⟩:=z
 rw[Jg r,Jg (r.mono fun o e=>k _ _ e)]
noncomputable def vlt (g : Heap) (v w : Value) : Bool:=lt2 (key g v).1 (key g v).2 (key g w).1 (key g w).2
noncomputable def sd {α : Type}(lt : α→α→Bool) (new : α) (start : Nat) (xs : List α) (pos : Nat) : List α:=
 if h : start < pos then
  match xs[(pos - 1) / 2]? with
  | some p=>if lt new p=true then sd lt new start (xs.set pos p) ((pos - 1) / 2) else xs.set pos new
  | none=>xs
 else xs.set pos new
termination_by pos
decreasing_by exact Y4 (Nat.zero_lt_of_lt h)
noncomputable def Rm (A : Around) (n : Nat) : Prop:=A.depth + n < 700∧A.units + 10 * n < 9000
theorem Rm.deep {A : Around}{n : Nat}(r : Rm A (n + 1)) (e : Env) : Rm (A.deeper e) n:=by
 obtain⟨a,b⟩:=r
 constructor
 ·exact (Nat.succ_add ..).symm ▸ a
 ·exact xq (k:=3) (by decide) b
theorem Rm.mono {A : Around}{n m : Nat}(r : Rm A n) (h : m≤n) : Rm A m:=⟨S5 (Nat.add_le_add_left h _) r.1,S5 (Nat.add_le_add_left (Nat.mul_le_mul_left 10 h) _) r.2⟩
theorem Rm.depth {A : Around}{n : Nat}(r : Rm A n) : A.depth < recursionLimit:=S8 (ye r.1) (by decide)
theorem Rm.units {A : Around}{n : Nat}(r : Rm A n) : A.units < cLine:=S8 (ye r.2) (by decide)
noncomputable abbrev fdSD : FuncData:=Xl (st 5) "_siftdown" .none (.str "cpy313.heapq" 286) (.ref 59)
noncomputable abbrev psSD : List PySem.Str:=["heap","startpos","pos"]
noncomputable abbrev rsSD : List PySem.Str:=["newitem","parentpos","parent"]
theorem F_sd : FnK 60 fdSD (fnB (st 5)) (psSD ++ rsSD):=⟨fun P=>by kernel_rfl,fun P=>by kernel_rfl,rfl,by kernel_rfl,dk,dk,dk,rfl,rfl,by kernel_rfl,by kernel_rfl⟩
theorem B_sd (a b c : Value) : bindArgs fdSD ⟨[a,b,c],[]⟩=pure (psSD.zip [a,b,c]):=by kernel_rfl
theorem Tj {j : Nat}{l : Addr}{xs : List Value}{s p : Nat}{t1 t2 : Tok}{new : Value}(hA : Rm A 2) (H : Led c env g ns vs as os h) (ha : as[j]?=some l) (ho : os[j]?=some (.li xs)) (hk : ∀ v∈xs,Y2 g.hp v)
 (hp : xs[p]?=some new) (hz : xs.length < 1000) : W c A (call (.ref 60) [.ref l,.int s t1,.int p t2]) (fun v h'=>v=.none∧Led c env g ns vs as (os.set j (.li (sd (vlt g.hp) new s xs p))) h') noX h:=by
 refine Zl ?_
 intro Q'
 refine Us H F_sd hA.depth (B_sd _ _ _) rfl dk fun L h₁ H1=>?_
 have hA':=hA.deep (callEnv fdSD L 60)
 have st:=H.stay
 refine (?_ : SB c _ _ _ _ _ _ _ _ _ _) h₁ H1
 clear H1 h₁
 have hpl:=(Nf hp).1
 refine Zs 3 rfl rfl (Yc (Za 0 rfl rfl) (Zj 2 rfl rfl) (.ld j ha ho) (by with_reducible exact Int.natCast_nonneg _) (by exact q1 ‹_› (by decide)) (by simpa using hp)) ?_
 intro v hv;subst hv
 have hv : Y2 g.hp v:=hk v (Nd hp)
 have hjl:=(Nf ho).1
 refine Jf (fun n h'=>Ex5 fun (xs' : List Value) (p' : Nat) (t : Tok) (a b : Option Value)=>An6 (n=p') (Led c (callEnv fdSD L 60) (subB g h env ns vs as) (psSD ++ rsSD) [some (.ref l),some (.int s t1),some (.int p' t),some v,a,b] as (os.set j (.li xs')) h') (xs'.length=xs.length) (p' < xs.length) ((∀ v∈xs',Y2 g.hp v)) (sd (vlt g.hp) v s xs' p'=sd (vlt g.hp) v s xs p))
  (fun h'=>Ex5 fun (xs' : List Value) (p' : Nat) (t : Tok) (a b : Option Value)=>An4 (Led c (callEnv fdSD L 60) (subB g h env ns vs as) (psSD ++ rsSD) [some (.ref l),some (.int s t1),some (.int p' t),some v,a,b] as (os.set j (.li xs')) h') (xs'.length=xs.length) (p' < xs.length) (xs'.set p' v=sd (vlt g.hp) v s xs p))
  p (fun h' H'=>⟨xs,p,t2,none,none,rfl,by rw[Xh ho];exact H',rfl,hpl,hk,rfl⟩) ?_ ?_
 ·rintro I' JJ p' QL h' ⟨xs',o_,t,a,b,rfl,H',hl',hp',hk',hsd⟩
  have hoj : (os.set j (.li xs'))[j]?=some (.li xs'):=List.getElem?_set_self hjl
  refine Xs (Zb (Zj 2 rfl rfl) (Zj 1 rfl rfl) gt_ii) H' ?_
  by_cases hgt : (p' : Int) > s
  ·refine ifT (decide_eq_true hgt) ?_
   have hgt : s < p':=Int.ofNat_lt.mp hgt
   have h0:=Nat.zero_lt_of_lt hgt
   have hpx : p' < xs'.length:=hl'.symm ▸ hp'
   have hzx : xs'.length < 1000:=hl'.symm ▸ hz
   have hq : (p' - 1) / 2 < xs'.length:=Xu hpx
   have hpar : xs'[(p' - 1) / 2]?=some xs'[(p' - 1) / 2]:=Nc hq
   obtain⟨a1,x1,i1,u1,u2,e1,z1⟩:=hv.mono st
   obtain⟨a2,x2,i2,u3,u4,e2,z2⟩:=(hk' _ (List.getElem_mem hq)).mono st
   refine (?_ : SB c _ _ _ _ _ _ _ _ _ _) h' H'
   refine Zs 4 rfl rfl (ev_shr (T8 (Zj 2 rfl rfl) ev_i) ev_i (by decide)) ?_
   rintro o_ ⟨t4,rfl⟩
   rw[par_fd h0]
   refine Zs 5 rfl rfl (Yc (Za 0 rfl rfl) (Zj 4 rfl rfl) (.ld j ha hoj) (by with_reducible exact Int.natCast_nonneg _) (by exact q1 ‹_› (by decide)) (by rw[Int.toNat_natCast];exact hpar)) ?_
   rintro o_ rfl
   refine Ym (Zb (Za 3 rfl (by rw[e1];rfl)) (Za 5 rfl (by rw[e2];rfl)) (lt_tt hA'.units (.fz z1) (.fz z2))) (fun hd=>?_) (fun hd=>?_)
   ·have hlt : vlt g.hp v xs'[(p' - 1) / 2]=true:=by
     rw[← hd];unfold vlt;rw[← hv.key st,← (hk' _ (List.getElem_mem hq)).key st,e2,e1,Jg z1,Jg z2]
    refine J7 (Za 5 rfl rfl) (Za 0 rfl rfl) (Zj 2 rfl rfl) ha hoj (by with_reducible exact Int.natCast_nonneg _) (by assumption) (by exact q1 ‹_› (by decide)) ?_
    rintro o_ rfl
    refine Zs 2 rfl rfl (Za 4 rfl rfl) ?_
    rintro o_ rfl
    refine sb_cont fun h'' H''=>?_
    rw[List.set_set] at H''
    refine⟨(p' - 1) / 2,Y4 h0,xs'.set p' xs'[(p' - 1) / 2],(p' - 1) / 2,t4,_,_,rfl,H'',List.length_set.trans hl',Xu hp',fun w hw=>?_,?_⟩
    ·rcases List.mem_or_eq_of_mem_set hw with hw | hw
     ·exact hk' w hw
     ·exact hw ▸ hk' _ (List.getElem_mem hq)
    ·rw[← hsd]
     conv=>rhs;rw[sd,dif_pos hgt,hpar]
     simp only[hlt,if_true]
   ·have hlt : vlt g.hp v xs'[(p' - 1) / 2]=false:=by
     rw[← hd];unfold vlt;rw[← hv.key st,← (hk' _ (List.getElem_mem hq)).key st,e2,e1,Jg z1,Jg z2]
    refine Zg fun h'' H''=>?_
    refine M1 (fun h'' H''=>?_) h'' H''
    refine⟨xs',p',t,_,_,H'',hl',hp',?_⟩
    rw[← hsd]
    conv=>rhs;rw[sd,dif_pos hgt,hpar]
    simp[hlt]
  ·refine ifF (fun q=>hgt (of_decide_eq_true q)) ?_
   refine⟨xs',p',t,a,b,H',hl',hp',?_⟩
   rw[← hsd,sd,dif_neg fun q=>hgt (Int.ofNat_lt.mpr q)]
 ·rintro h' ⟨xs',p',t,a,b,H',hl',hp',hsd⟩
  have hpx : p' < xs'.length:=hl'.symm ▸ hp'
  have hzx : xs'.length < 1000:=hl'.symm ▸ hz
  have hoj : (os.set j (.li xs'))[j]?=some (.li xs'):=List.getElem?_set_self hjl
  refine (?_ : SB c _ _ _ _ _ _ _ _ _ _) h' H'
  refine J7 (Za 3 rfl rfl) (Za 0 rfl rfl) (Zj 2 rfl rfl) ha hoj (by with_reducible exact Int.natCast_nonneg _) (by assumption) (by exact q1 ‹_› (by decide)) ?_
  rintro o_ rfl
  refine Zg fun h'' H''=>⟨rfl,?_⟩
  rw[List.set_set] at H''
  rw[← hsd]
  exact H.leave₀ H''
theorem Sr {α : Type}{lt lt' : α→α→Bool}{new : α}{s : Nat} : ∀ (p : Nat) (xs : List α),(∀ y∈xs,lt new y=lt' new y)→sd lt new s xs p=sd lt' new s xs p:=by
 intro p
 induction p using Nat.strongRecOn with
 | ind p ih =>
  intro xs hx
  rw[sd,sd]
  split
  ·cases hq : xs[(p - 1) / 2]? with
   | none=>rfl
   | some y =>
    have hy:=Nd hq
    simp only[hx y hy]
    split
    ·exact ih _ (Y4 (Nat.zero_lt_of_lt (by assumption))) _ fun z hz=>by
      rcases List.mem_or_eq_of_mem_set hz with hz | hz
      ·exact hx z hz
      ·exact hz ▸ hx y hy
    ·rfl
  ·rfl
theorem Vw {g g' : Heap}{v w : Value}(k : g.StaysIn g') (hv : Y2 g v) (hw : Y2 g w) : vlt g' v w=vlt g v w:=by unfold vlt;rw[hv.key k,hw.key k]
noncomputable def suL {α : Type}(lt : α→α→Bool) (xs : List α) (pos : Nat) : List α × Nat:=
 if h : 2 * pos + 1 < xs.length then
  if h2 : 2 * pos + 2 < xs.length then
   if lt xs[2 * pos + 1] xs[2 * pos + 2]=true then suL lt (xs.set pos xs[2 * pos + 1]) (2 * pos + 1)
   else suL lt (xs.set pos xs[2 * pos + 2]) (2 * pos + 2)
  else suL lt (xs.set pos xs[2 * pos + 1]) (2 * pos + 1)
 else (xs,pos)
termination_by xs.length - pos
decreasing_by all_goals (rw[List.length_set];exact par_lt2 (by assumption) (Mv _ _))
noncomputable def su {α : Type}(lt : α→α→Bool) (xs : List α) (pos : Nat) (new : α) : List α:=
 sd lt new pos ((suL lt xs pos).1.set (suL lt xs pos).2 new) (suL lt xs pos).2
noncomputable abbrev fdSU : FuncData:=Xl (st 6) "_siftup" .none (.str "cpy313.heapq" 286) (.ref 66)
noncomputable abbrev psSU : List PySem.Str:=["heap","pos"]
noncomputable abbrev rsSU : List PySem.Str:=["endpos","startpos","newitem","childpos","rightpos"]
theorem F_su : FnK 67 fdSU (fnB (st 6)) (psSU ++ rsSU):=⟨fun P=>by kernel_rfl,fun P=>by kernel_rfl,rfl,by kernel_rfl,dk,dk,dk,rfl,rfl,by kernel_rfl,by kernel_rfl⟩
theorem B_su (a b : Value) : bindArgs fdSU ⟨[a,b],[]⟩=pure (psSU.zip [a,b]):=by kernel_rfl
theorem Uf (P : Params) : nsIn (K P) mainGlobals "len"=some none:=by kernel_rfl
theorem n_sd (P : Params) : nsIn (K P) mainGlobals "_siftdown"=some (some (.ref 60)):=by kernel_rfl
theorem k_sd : Jc 60:=fun P=>by kernel_rfl
theorem siftup_ok {j : Nat}{l : Addr}{xs : List Value}{p : Nat}{t2 : Tok}{new : Value}(hA : Rm A 3) (H : Led c env g ns vs as os h) (ha : as[j]?=some l) (ho : os[j]?=some (.li xs)) (hk : ∀ v∈xs,Y2 g.hp v)
 (hp : xs[p]?=some new) (hz : xs.length < 1000) : W c A (call (.ref 67) [.ref l,.int p t2]) (fun v h'=>v=.none∧Led c env g ns vs as (os.set j (.li (su (vlt g.hp) xs p new))) h') noX h:=by
 refine Zl ?_
 intro Q'
 refine Us H F_su hA.depth (B_su _ _) rfl dk fun L h₁ H1=>?_
 have hA':=hA.deep (callEnv fdSU L 67)
 have st:=H.stay
 refine (?_ : SB c _ _ _ _ _ _ _ _ _ _) h₁ H1
 clear H1 h₁
 have hpl:=(Nf hp).1
 refine Zs 2 rfl rfl (Uh (Zr (by rfl) Uf boot_len) (Za 0 rfl rfl) (.ld j ha ho) (by exact q1 ‹_› (by decide))) ?_
 rintro o_ ⟨t3,rfl⟩
 refine Zs 3 rfl rfl (Za 1 rfl rfl) ?_
 rintro o_ rfl
 refine Zs 4 rfl rfl (Yc (Za 0 rfl rfl) (Zj 1 rfl rfl) (.ld j ha ho) (by with_reducible exact Int.natCast_nonneg _) (by exact q1 ‹_› (by decide)) (by simpa using hp)) ?_
 intro w hw;subst hw
 refine Zs 5 rfl rfl (Ji (Uj ev_i (Zj 1 rfl rfl) (by mul_fits)) ev_i) ?_
 rintro o_ ⟨t5,rfl⟩
 have hw : Y2 g.hp w:=hk w (Nd hp)
 have hjl:=(Nf ho).1
 refine Jf (fun n h'=>Ex5 fun (xs' : List Value) (p' : Nat) (t t' : Tok) (b : Option Value)=>An6 (n=xs.length - p') (Led c (callEnv fdSU L 67) (subB g h env ns vs as) (psSU ++ rsSU) [some (.ref l),some (.int p' t),some (.int xs.length t3),some (.int p t2),some w,some (.int (2 * p' + 1) t'),b] as (os.set j (.li xs')) h') (xs'.length=xs.length) (p' < xs.length) ((∀ v∈xs',Y2 g.hp v)) (suL (vlt g.hp) xs' p'=suL (vlt g.hp) xs p))
  (fun h'=>Ex5 fun (xs' : List Value) (p' : Nat) (t t' : Tok) (b : Option Value)=>An5 (Led c (callEnv fdSU L 67) (subB g h env ns vs as) (psSU ++ rsSU) [some (.ref l),some (.int p' t),some (.int xs.length t3),some (.int p t2),some w,some (.int (2 * p' + 1) t'),b] as (os.set j (.li xs')) h') (xs'.length=xs.length) (p' < xs.length) ((∀ v∈xs',Y2 g.hp v)) ((xs',p')=suL (vlt g.hp) xs p))
  (xs.length - p) (fun h' H'=>⟨xs,p,t2,t5,none,rfl,by rw[Xh ho];exact H',rfl,hpl,hk,rfl⟩) ?_ ?_
 ·rintro I' JJ o_ QL h' ⟨xs',p',t,t',b,rfl,H',hl',hp',hk',hsu⟩
  have hoj : (os.set j (.li xs'))[j]?=some (.li xs'):=List.getElem?_set_self hjl
  have hpx : p' < xs'.length:=hl'.symm ▸ hp'
  have hzx : xs'.length < 1000:=hl'.symm ▸ hz
  refine Xs (Zb (Zj 5 rfl rfl) (Zj 2 rfl rfl) T0) H' ?_
  by_cases hlt : 2 * p' + 1 < xs.length
  ·refine ifT (decide_eq_true (Int.ofNat_lt.mpr hlt)) ?_
   have hlx : 2 * p' + 1 < xs'.length:=hl'.symm ▸ hlt
   refine (?_ : SB c _ _ _ _ _ _ _ _ _ _) h' H'
   refine Zs 6 rfl rfl (Ji (Zj 5 rfl rfl) ev_i) ?_
   rintro o_ ⟨t6,rfl⟩
   have hc1 : xs'[2 * p' + 1]?=some xs'[2 * p' + 1]:=Nc hlx
   refine sb_ifJ (d:=if hr : 2 * p' + 2 < xs'.length then !(vlt g.hp xs'[2 * p' + 1] xs'[2 * p' + 2]) else false) (fun h''=>Ex2 fun (cp : Nat) (t7 : Tok)=>An3 (Led c (callEnv fdSU L 67) (subB g h env ns vs as) (psSU ++ rsSU) [some (.ref l),some (.int p' t),some (.int xs.length t3),some (.int p t2),some w,some (.int cp t7),some (.int (2 * p' + 1 + 1) t6)] as (os.set j (.li xs')) h'') (p' < cp) (∃ hcp : cp < xs'.length,suL (vlt g.hp) (xs'.set p' xs'[cp]) cp=suL (vlt g.hp) xs p)) ?_ ?_ ?_ ?_
   ·by_cases hr : 2 * p' + 2 < xs'.length
    ·obtain⟨a1,x1,i1,u1,u2,e1,z1⟩:=(hk' _ (List.getElem_mem hlx)).mono st
     obtain⟨a2,x2,i2,u3,u4,e2,z2⟩:=(hk' _ (List.getElem_mem hr)).mono st
     have hlt2 : vlt g.hp xs'[2 * p' + 1] xs'[2 * p' + 2]=lt2 x1 i1 x2 i2:=by
      unfold vlt;rw[← (hk' _ (List.getElem_mem hlx)).key st,← (hk' _ (List.getElem_mem hr)).key st,e1,e2,Jg z1,Jg z2]
     rw[dif_pos hr,hlt2]
     refine (Ys (Zb (Zj 6 rfl rfl) (Zj 2 rfl rfl) T0) (fun o_=>Yo (Zb
      (Yc (Za 0 rfl rfl) (Zj 5 rfl rfl) (.ld j ha hoj) (Int.natCast_nonneg (2 * p' + 1)) (by exact q1 ‹_› (by decide)) (by rw[Int.toNat_natCast,Nc hlx,e1]))
      (Yc (Za 0 rfl rfl) (Zj 6 rfl rfl) (.ld j ha hoj) (Int.natCast_nonneg (2 * p' + 2)) (by exact q1 ‹_› (by decide)) (by rw[Int.toNat_natCast,Nc hr,e2]))
      (lt_tt hA'.units (.fz z1) (.fz z2))))).cast ?_
     rw[show decide (2 * (p' : Int) + 1 + 1 < (xs.length : Int))=true from decide_eq_true (Int.ofNat_lt.mpr (hl' ▸ hr)),Bool.true_and]
    ·rw[dif_neg hr]
     refine (Ys (e:=true) (Zb (Zj 6 rfl rfl) (Zj 2 rfl rfl) T0) (fun q=>absurd (hl'.symm ▸ Int.ofNat_lt.mp (of_decide_eq_true q)) hr)).cast ?_
     rw[show decide (2 * (p' : Int) + 1 + 1 < (xs.length : Int))=false from decide_eq_false fun q=>hr (hl'.symm ▸ Int.ofNat_lt.mp q),Bool.false_and]
   ·intro hd
    split at hd
    ·rename_i hr
     refine Zs 5 rfl rfl (Za 6 rfl rfl) ?_
     rintro o_ rfl
     refine Zg fun h'' H''=>⟨rfl,2 * p' + 2,t6,H'',Mv _ _,hr,?_⟩
     rw[← hsu]
     conv=>rhs;rw[suL,dif_pos hlx,dif_pos hr,if_neg (by simpa using hd)]
    ·cases hd
   ·intro hd
    refine Zg fun h'' H''=>⟨rfl,2 * p' + 1,t',H'',Mv _ _,hlx,?_⟩
    rw[← hsu]
    split at hd
    ·rename_i hr
     conv=>rhs;rw[suL,dif_pos hlx,dif_pos hr,if_pos (by simpa using hd)]
    ·rename_i hr
     conv=>rhs;rw[suL,dif_pos hlx,dif_neg hr]
   ·rintro h'' ⟨cp,t7,H'',hcl,hcp,hcs⟩
    have hcg : xs'[cp]?=some xs'[cp]:=Nc hcp
    refine (?_ : SB c _ _ _ _ _ _ _ _ _ _) h'' H''
    refine J7 (Yc (Za 0 rfl rfl) (Zj 5 rfl rfl) (.ld j ha hoj) (by with_reducible exact Int.natCast_nonneg _) (by exact q1 ‹_› (by decide)) (by rw[Int.toNat_natCast];exact hcg)) (Za 0 rfl rfl) (Zj 1 rfl rfl) ha hoj (by with_reducible exact Int.natCast_nonneg _) (by assumption) (by exact q1 ‹_› (by decide)) ?_
    rintro o_ rfl
    refine Zs 1 rfl rfl (Za 5 rfl rfl) ?_
    rintro o_ rfl
    refine Zs 5 rfl rfl (Ji (Uj ev_i (Zj 1 rfl rfl) (by mul_fits)) ev_i) ?_
    rintro o_ ⟨t8,rfl⟩
    refine Zg fun h3 H3=>?_
    rw[List.set_set] at H3
    refine⟨xs.length - cp,par_lt2 (hl' ▸ hcp) hcl,xs'.set p' xs'[cp],cp,t7,t8,_,rfl,H3,List.length_set.trans hl',hl' ▸ hcp,fun v hv=>?_,hcs⟩
    rcases List.mem_or_eq_of_mem_set hv with hv | hv
    ·exact hk' v hv
    ·exact hv ▸ hk' _ (List.getElem_mem hcp)
  ·refine ifF (fun q=>hlt (Int.ofNat_lt.mp (of_decide_eq_true q))) ?_
   refine⟨xs',p',t,t',b,H',hl',hp',hk',?_⟩
   rw[← hsu,suL,dif_neg fun q=>hlt (hl' ▸ q)]
 ·rintro h' ⟨xs',p',t,t',b,H',hl',hp',hk',hsu⟩
  have hpx : p' < xs'.length:=hl'.symm ▸ hp'
  have hzx : xs'.length < 1000:=hl'.symm ▸ hz
  have hoj : (os.set j (.li xs'))[j]?=some (.li xs'):=List.getElem?_set_self hjl
  refine (?_ : SB c _ _ _ _ _ _ _ _ _ _) h' H'
  refine J7 (Za 4 rfl rfl) (Za 0 rfl rfl) (Zj 1 rfl rfl) ha hoj (by with_reducible exact Int.natCast_nonneg _) (by assumption) (by exact q1 ‹_› (by decide)) ?_
  intro x hx;subst x
  rw[List.set_set,Int.toNat_natCast]
  refine Ur fun h'' H''=>?_
  refine w_call H'' (Xm (by rfl) n_sd) k_sd (Y5 (Za 0 rfl rfl) (Y5 (Za 3 rfl rfl) (Y5 (Za 1 rfl rfl) Ux))) ?_
  rintro o_ ⟨x1,o_,rfl,e1,x2,o_,rfl,e2,x3,o_,rfl,e3,rfl⟩
  subst x1 x2 x3
  refine Zh (Tj hA' H'' ha (List.getElem?_set_self hjl) (fun v hv=>?_) (List.getElem?_set_self hpx) (by rw[List.length_set];exact hzx)) ?_ fun o_ o_ q=>q.elim
  ·rcases List.mem_or_eq_of_mem_set hv with hv | hv
   ·exact (hk' v hv).mono st
   ·exact hv ▸ hw.mono st
  ·rintro o_ h3 ⟨-,H3⟩
   refine Zg (fun h4 H4=>⟨rfl,?_⟩) h3 H3
   rw[List.set_set] at H4
   have e : sd (vlt (subB g h env ns vs as).hp) w p (xs'.set p' w) p'=su (vlt g.hp) xs p w:=by
    unfold su
    rw[← hsu]
    refine Sr _ _ fun y hy=>Vw st hw ?_
    rcases List.mem_or_eq_of_mem_set hy with hy | hy
    ·exact hk' y hy
    ·exact hy ▸ hw
   rw[e] at H4
   exact H.leave₀ H4
noncomputable def hpush {α : Type}(lt : α→α→Bool) (xs : List α) (x : α) : List α:=sd lt x 0 (xs ++ [x]) xs.length
noncomputable abbrev fdPU : FuncData:=Xl (st 3) "heappush" .none (.str "cpy313.heapq" 286) (.ref 45)
noncomputable abbrev psPU : List PySem.Str:=["heap","item"]
theorem F_pu : FnK 46 fdPU (fnB (st 3)) (psPU ++ []):=⟨fun P=>by kernel_rfl,fun P=>by kernel_rfl,rfl,by kernel_rfl,dk,dk,dk,rfl,rfl,by kernel_rfl,by kernel_rfl⟩
theorem B_pu (a b : Value) : bindArgs fdPU ⟨[a,b],[]⟩=pure (psPU.zip [a,b]):=by kernel_rfl
noncomputable abbrev fdPO : FuncData:=Xl (st 4) "heappop" .none (.str "cpy313.heapq" 286) (.ref 52)
noncomputable abbrev psPO : List PySem.Str:=["heap"]
noncomputable abbrev rsPO : List PySem.Str:=["lastelt","returnitem"]
theorem F_po : FnK 53 fdPO (fnB (st 4)) (psPO ++ rsPO):=⟨fun P=>by kernel_rfl,fun P=>by kernel_rfl,rfl,by kernel_rfl,dk,dk,dk,rfl,rfl,by kernel_rfl,by kernel_rfl⟩
theorem B_po (a : Value) : bindArgs fdPO ⟨[a],[]⟩=pure (psPO.zip [a]):=by kernel_rfl
theorem n_su (P : Params) : nsIn (K P) mainGlobals "_siftup"=some (some (.ref 67)):=by kernel_rfl
theorem k_su : Jc 67:=fun P=>by kernel_rfl
theorem Ug {j : Nat}{l : Addr}{xs : List Value}{v : Value}(hA : Rm A 4) (H : Led c env g ns vs as os h) (ha : as[j]?=some l) (ho : os[j]?=some (.li xs)) (hk : ∀ v∈xs,Y2 g.hp v) (hv : Y2 g.hp v)
 (hz : xs.length < 900) : W c A (call (.ref 46) [.ref l,v]) (fun r h'=>r=.none∧Led c env g ns vs as (os.set j (.li (hpush (vlt g.hp) xs v))) h') noX h:=by
 refine Zl ?_
 intro Q'
 refine Us H F_pu hA.depth (B_pu _ _) rfl dk fun L h₁ H1=>?_
 have hA':=hA.deep (callEnv fdPU L 46)
 have st:=H.stay
 have hjl:=(Nf ho).1
 refine (?_ : SB c _ _ _ _ _ _ _ _ _ _) h₁ H1
 clear H1 h₁
 refine Ur fun h₁ H1=>w_append H1 (Za 0 rfl rfl) ha ho (by rw[sizeLine_eq];exact q3 ‹_› (by decide)) (Za 1 rfl rfl) ?_
 intro x h₂ hx H2;subst x
 refine (?_ : SB c _ _ _ _ _ _ _ _ _ _) h₂ H2
 refine Ur fun h₃ H3=>?_
 refine w_call H3 (Xm (by rfl) n_sd) k_sd (Y5 (Za 0 rfl rfl) (Y5 ev_i (Y5 (T8 (Uh (Zr (by rfl) Uf boot_len) (Za 0 rfl rfl) (.ld j ha (List.getElem?_set_self hjl)) (by simp;exact q2 ‹_› (by decide))) ev_i) Ux))) ?_
 rintro o_ ⟨x1,o_,rfl,e1,o_,o_,rfl,⟨t1,rfl⟩,o_,o_,rfl,⟨t2,rfl⟩,rfl⟩
 subst x1
 have hln : (((xs ++ [v]).length : Nat) : Int) - 1=(xs.length : Nat):=by simp
 rw[hln]
 have hk' : ∀ w∈xs ++ [v],Y2 g.hp w:=fun w hw=>by
  rcases Nh hw with hw | hw
  ·exact hk w hw
  ·simp at hw;exact hw ▸ hv
 refine Zh (Tj (s:=0) (new:=v) (hA'.mono (by decide)) H3 ha (List.getElem?_set_self hjl) (fun w hw=>(hk' w hw).mono st) (by simp) (by simp;exact q2 ‹_› (by decide))) ?_ fun o_ o_ q=>q.elim
 rintro o_ h4 ⟨-,H4⟩
 refine Zg (fun h5 H5=>⟨rfl,?_⟩) h4 H4
 rw[List.set_set,Sr (lt':=vlt g.hp) _ _ fun y hy=>Vw st hv (hk' y hy)] at H5
 exact H.leave₀ H5
theorem su_congr {α : Type}{lt lt' : α→α→Bool} : ∀ (n p : Nat) (xs : List α),n=xs.length - p→(∀ x∈xs,∀ y∈xs,lt x y=lt' x y)→suL lt xs p=suL lt' xs p:=by
 intro n
 induction n using Nat.strongRecOn with
 | ind n ih =>
  intro p xs hn hx
  have step : ∀ q,p < q→∀ hq : q < xs.length,suL lt (xs.set p xs[q]) q=suL lt' (xs.set p xs[q]) q:=fun q hpq hq=>ih (xs.length - q) (hn ▸ Nat.sub_lt_sub_left (S8 hpq hq) hpq) q _ (by simp) fun x hx1 y hy1=>by
   have m : ∀ z∈xs.set p xs[q],z∈xs:=fun z hz=>by
    rcases List.mem_or_eq_of_mem_set hz with hz | hz
    ·exact hz
    ·exact hz ▸ List.getElem_mem hq
   exact hx x (m x hx1) y (m y hy1)
  rw[suL,suL]
  split
  ·split
   ·rename_i h1 h2
    rw[hx _ (List.getElem_mem h1) _ (List.getElem_mem h2)]
    split
    ·exact step _ (Mv p 0) h1
    ·exact step _ (Mv p 1) h2
   ·rename_i h1 h2
    exact step _ (Mv p 0) h1
  ·rfl
theorem suL_mem {α : Type}{lt : α→α→Bool} : ∀ (n p : Nat) (xs : List α),n=xs.length - p→∀ x∈(suL lt xs p).1,x∈xs:=by
 intro n
 induction n using Nat.strongRecOn with
 | ind n ih =>
  intro p xs hn
  have step : ∀ q,p < q→∀ hq : q < xs.length,∀ x∈(suL lt (xs.set p xs[q]) q).1,x∈xs:=fun q hpq hq x hx=>by
   have hz:=ih (xs.length - q) (hn ▸ Nat.sub_lt_sub_left (S8 hpq hq) hpq) q (xs.set p xs[q]) (by simp) x hx
   rcases List.mem_or_eq_of_mem_set hz with hz | hz
   ·exact hz
   ·exact hz ▸ List.getElem_mem hq
  rw[suL]
  split
  ·split
   ·split
    ·exact step _ (Mv p 0) _
    ·exact step _ (Mv p 1) _
   ·exact step _ (Mv p 0) _
  ·exact fun x hx=>hx
theorem heappop_ok {j : Nat}{l : Addr}{ys : List Value}{z : Value}(hA : Rm A 5) (H : Led c env g ns vs as os h) (ha : as[j]?=some l) (ho : os[j]?=some (.li (ys ++ [z]))) (hk : ∀ v∈ys ++ [z],Y2 g.hp v)
 (hz : ys.length < 900) : W c A (call (.ref 53) [.ref l]) (fun r h'=>(ys=[]∧r=z∧Led c env g ns vs as (os.set j (.li [])) h')∨∃ y ys',ys=y :: ys'∧r=y∧Led c env g ns vs as (os.set j (.li (su (vlt g.hp) (z :: ys') 0 z))) h') noX h:=by
 refine Zl ?_
 intro Q'
 refine Us H F_po hA.depth (B_po _) rfl dk fun L h₁ H1=>?_
 have hA':=hA.deep (callEnv fdPO L 53)
 have st:=H.stay
 have hjl:=(Nf ho).1
 refine (?_ : SB c _ _ _ _ _ _ _ _ _ _) h₁ H1
 clear H1 h₁
 refine sb_setX (R:=fun v h'=>v=z∧Led c (callEnv fdPO L 53) (subB g h env ns vs as) (psPO ++ rsPO) [some (.ref l),none,none] as (os.set j (.li ys)) h') (fun h₁ H1=>w_pop H1 (Za 0 rfl rfl) ha ho (by rw[sizeLine_eq];exact q1 ‹_› (by decide)) fun h₂ H2=>⟨rfl,H2⟩) ?_
 rintro w h₁ ⟨rfl,H1⟩
 refine Zp (v0:=none) 1 rfl rfl H1 fun h₂ H2=>?_
 refine (?_ : SB c _ _ _ _ _ _ _ _ _ _) h₂ H2
 clear H2 h₂ H1 h₁
 have hoj : (os.set j (.li ys))[j]?=some (.li ys):=List.getElem?_set_self hjl
 refine Ym (Yk (Za 0 rfl rfl) (tr_list (.ld j ha hoj) (by exact q1 ‹_› (by decide)))) (fun hd=>?_) (fun hd=>?_)
 ·cases ys with
  | nil=>cases hd
  | cons y ys' =>
   refine Zs 2 rfl rfl (Yc (Za 0 rfl rfl) ev_i (.ld j ha hoj) (by decide) (by exact q1 ‹_› (by decide)) rfl) ?_
   intro x hx;subst x
   refine J7 (Za 1 rfl rfl) (Za 0 rfl rfl) ev_i ha hoj (by decide) (by simp) (by exact q1 ‹_› (by decide)) ?_
   intro x hx;subst x
   rw[List.set_set]
   refine Ur fun h₁ H1=>?_
   refine w_call H1 (Xm (by rfl) n_su) k_su (Y5 (Za 0 rfl rfl) (Y5 ev_i Ux)) ?_
   rintro _ ⟨x1,_,rfl,e1,_,_,rfl,⟨t2,rfl⟩,rfl⟩
   subst x1
   have hkz : Y2 g.hp w:=hk w (by simp)
   have hks : ∀ v∈w :: ys',Y2 g.hp v:=fun v hv=>by
    rcases List.mem_cons.mp hv with rfl | hv
    ·exact hkz
    ·exact hk v (by simp[hv])
   refine Zh (siftup_ok (p:=0) (new:=w) (xs:=w :: ys') (hA'.mono (by decide)) H1 ha (List.getElem?_set_self hjl) (fun v hv=>(hks v hv).mono st) rfl (by simp at hz ⊢;exact q1 ‹_› (by decide))) ?_ fun o_ o_ q=>q.elim
   rintro o_ h₂ ⟨-,H2⟩
   refine (?_ : SB c _ _ _ _ _ _ _ _ _ _) h₂ H2
   refine Y6 (Za 2 rfl rfl) fun h₃ H3 v hv=>.inr ⟨y,ys',rfl,hv,?_⟩
   rw[List.set_set] at H3
   have e : su (vlt (subB g h env ns vs as).hp) (w :: ys') 0 w=su (vlt g.hp) (w :: ys') 0 w:=by
    have hc : ∀ x∈w :: ys',∀ y∈w :: ys',vlt (subB g h env ns vs as).hp x y=vlt g.hp x y:=fun x hx y hy=>Vw st (hks x hx) (hks y hy)
    unfold su
    rw[su_congr _ 0 _ rfl hc]
    refine Sr _ _ fun y hy=>hc w (by simp) y ?_
    rcases List.mem_or_eq_of_mem_set hy with hy | hy
    ·exact suL_mem _ 0 _ rfl y hy
    ·exact hy ▸ List.mem_cons_self
   rw[e] at H3
   exact H.leave₀ H3
 ·cases ys with
  | cons y ys'=>cases hd
  | nil =>
   refine Zg fun h₁ H1=>?_
   refine (?_ : SB c _ _ _ _ _ _ _ _ _ _) h₁ H1
   refine Y6 (Za 1 rfl rfl) fun h₂ H2 v hv=>.inl ⟨rfl,hv,H.leave₀ H2⟩
structure Fly (S : List Addr) (h₀ h : Heap) (e : Addr) (cls : String) (tb : Option Addr) : Prop where
 keep : ∀ b o,h₀.get? b=some o→b ∉ S→h.get? b=some o
 slots : ∀ b o,h₀.get? b=some o→b∈S→∃ sl,h.get? b=some { o with slots:=sl }
 new : h₀.get? e=none
 exc : ∃ oe vs,h.get? e=some oe∧oe.cls=.type cls∧oe.data=.fields vs∧vs[1]?=some (match tb with | none=>.none | some T=>.ref T)
 trc : ∀ T,tb=some T→h₀.get? T=none∧T≠e∧∃ oT ts,h.get? T=some oT∧oT.data=.fields ts∧ts[3]?=some .none
structure FR (A : Around) (fs : List Addr) : Prop where
 fr : ∃ l : List Env,A.frames=some l∧∀ x∈l,x.scope.kind≠.module∧∃ a∈fs,x.frame=some a
structure FO (A : Around) (env : Env) (fs : List Addr) : Prop where
 fr : ∃ outer : List Env,A.frames=some (env :: outer)∧∀ x∈outer,x.scope.kind≠.module∧∃ a∈fs,x.frame=some a
 knd : env.scope.kind≠.module
 own : env.frame=some env.locals
theorem fun_frames {h : Heap}{fs : List Addr}(hn : ∀ a∈fs,∃ o es ep,h.get? a=some o∧o.data=.dict es ep) {l : List Env}(hk : ∀ x∈l,x.scope.kind≠.module∧∃ a∈fs,x.frame=some a) : h.FunFrames {} l:=by
 induction l with
 | nil=>trivial
 | cons x l ih =>
  obtain⟨k,a,ha,e⟩:=hk x (.head _)
  obtain⟨o,es,ep,ho,hd⟩:=hn a ha
  exact⟨k,⟨a,o,e,by simp[Heap.get?],ho,fun vs q=>by rw[hd] at q;cases q⟩,ih fun y hy=>hk y (.tail _ hy)⟩
section
variable {M : Model} {E : Value → Shared → Prop} {s : Shared} {fs : List Addr} {h₀ : Heap}
theorem Fly.someW {S : List Addr}{h : Heap}{e : Addr}{cls : String}{tb : Option Addr}(x : Fly S h₀ h e cls tb) {b : Addr}{o : Obj}(hb : h₀.get? b=some o) : ∃ o',h.get? b=some o'∧o'.data=o.data:=by
 by_cases hs : b∈S
 ·obtain⟨sl,z⟩:=x.slots b o hb hs;exact⟨_,z,rfl⟩
 ·exact⟨o,x.keep b o hb hs,rfl⟩
theorem Se {e : Addr}{cls : String}{tb : Option Addr}{head : Value}{hadNext : Bool}{Q : Unit→Shared→Prop}(F : FO A env fs) (hn : ∀ a∈env.locals :: fs,∃ o es ep,h₀.get? a=some o∧o.data=.dict es ep)
 (x : Fly (env.locals :: fs) h₀ s.heap e cls tb) (k : ∀ h' T,Fly (env.locals :: fs) h₀ h' e cls (some T)→Q () { s with heap:=h' }) :
 wpAny M A (do let a ← frameOf env;let pl ← entryPlaceOf env.locals hadNext;let b ← EntryCells.newEntry head a .none (rawInt env.locals) .none pl;setField (.ref e) 1 b) (fun o_ s'=>wpAny M A (setFlight (.ref e) none) Q E s') E s:=by
 obtain⟨outer,hfr,hk⟩:=F.fr
 have hall : ∀ x∈env :: outer,x.scope.kind≠.module∧∃ a∈env.locals :: fs,x.frame=some a:=fun x hx=>by
  rcases List.mem_cons.mp hx with rfl | hx
  ·exact⟨F.knd,_,.head _,F.own⟩
  ·obtain⟨k,a,ha,e⟩:=hk x hx;exact⟨k,a,.tail _ ha,e⟩
 have hl : s.heap.FunFrames {} (env :: outer):=fun_frames (fs:=env.locals :: fs) (fun a ha=>by
  obtain⟨o,es,ep,ho,hd⟩:=hn a ha
  obtain⟨o',h1,h2⟩:=x.someW ho
  exact⟨o',es,ep,h1,h2.trans hd⟩) hall
 have hS : ∀ b,b ∉ env.locals :: fs→b ∉ (env :: outer).filterMap (·.frame):=fun b hb q=>by
  obtain⟨x,hx,e⟩:=List.mem_filterMap.mp q
  obtain⟨o_,a,ha,e'⟩:=hall x hx
  rw[e] at e';cases e';exact hb ha
 refine wpAny_bind (wpAny_frameOf_fun hfr hl F.own fun h₁ hs1=>?_)
 obtain⟨oe,vs,he,hcls,hd,h1⟩:=x.exc
 have heS : e ∉ env.locals :: fs:=fun q=>by
  obtain⟨o,o_,o_,ho,o_⟩:=hn e q;rw[x.new] at ho;cases ho
 have hsz : 1 < vs.size:=(Array.getElem?_eq_some_iff.mp h1).1
 refine wpAny_bind (wpAny_entryPlaceOf fun pl hpl=>?_)
 unfold EntryCells.newEntry newFields
 refine wpAny_bind (wpAny_newObj_type ?_ (hpl.sizeOk5 _ _ _ _ _))
 have he1 : h₁.get? e=some oe:=(hs1.2.1 e (hS e heS)).trans he
 have he2:=Heap.get?_push_of_some (h:=h₁) { cls:=.type "traceback",dict:=none,data:=.fields ([head,.ref env.locals,.none,rawInt env.locals,.none] ++ (if pl.isEmpty then List.replicate 6 Value.none else pl)).toArray } he1
 refine wpAny_setField he2 hd hsz ?_
 have hTe : h₁.objs.size≠e:=Nat.ne_of_gt (Heap.lt_size he1)
 have hd3:=Obj.data_mapFields hd (·.setIfInBounds 1 (Value.ref h₁.objs.size))
 have he3:=Heap.get?_update_self (Obj.mapFields (·.setIfInBounds 1 (Value.ref h₁.objs.size))) he2 (Obj.isFreed_of_fields hd3)
 have hT3:=(Heap.get?_update_other (h₁.push { cls:=.type "traceback",dict:=none,data:=.fields ([head,.ref env.locals,.none,rawInt env.locals,.none] ++ (if pl.isEmpty then List.replicate 6 Value.none else pl)).toArray })
  (Obj.mapFields (·.setIfInBounds 1 (Value.ref h₁.objs.size))) (Ne.symm hTe)).trans (Heap.get?_push_size h₁ rfl)
 unfold setFlight
 refine wpAny_bind (wpAny_field he3 hd3 (x:=.ref h₁.objs.size) (by simp[hsz]) ?_)
 rw[if_pos (show (Value.ref h₁.objs.size != Value.none)=true from by simp)]
 refine wpAny_setField hT3 rfl (by simp only[List.size_toArray,List.length_append,List.length_cons,List.length_nil] <;> lia) (k _ h₁.objs.size ?_)
 have keep : ∀ b o,b≠e→h₁.get? b=some o →
  (((h₁.push { cls:=.type "traceback",dict:=none,data:=.fields ([head,.ref env.locals,.none,rawInt env.locals,.none] ++ (if pl.isEmpty then List.replicate 6 Value.none else pl)).toArray }).update e (Obj.mapFields (·.setIfInBounds 1 (Value.ref h₁.objs.size)))).update h₁.objs.size
   (Obj.mapFields (·.setIfInBounds 3 ((none : Option Addr).elim Value.none fun f=>rawInt f)))).get? b=some o:=fun b o hbe hb=>by
  have hbT : h₁.objs.size≠b:=Nat.ne_of_gt (Heap.lt_size hb)
  rw[Heap.get?_update_other _ _ hbT,Heap.get?_update_other _ _ (Ne.symm hbe)]
  exact Heap.get?_push_of_some _ hb
 have ne : ∀ b o,h₀.get? b=some o→b≠e:=fun b o hb q=>by rw[q,x.new] at hb;cases hb
 have hnew : h₀.get? h₁.objs.size=none:=by
  cases q : h₀.get? h₁.objs.size with
  | none=>rfl
  | some o =>
   obtain⟨o',z,o_⟩:=x.someW q
   have:=Heap.lt_size z
   rw[← hs1.1] at this
   exact absurd this (Nat.lt_irrefl _)
 refine⟨fun b o hb hb'=>keep b o (ne b o hb) ((hs1.2.1 b (hS b hb')).trans (x.keep b o hb hb')),fun b o hb hS=>?_,x.new,?_,?_⟩
 ·obtain⟨sl,z⟩:=x.slots b o hb hS
  obtain⟨sl',z'⟩:=hs1.2.2 b _ z
  exact⟨sl',keep b _ (ne b o hb) z'⟩
 ·exact⟨_,_,by rw[Heap.get?_update_other _ _ hTe];exact he3,(Obj.cls_mapFields _ _).trans hcls,hd3,by simp[hsz]⟩
 ·rintro T hT
  cases hT
  refine⟨hnew,hTe,_,_,Heap.get?_update_self _ hT3 (Obj.isFreed_of_fields (Obj.data_mapFields rfl _)),Obj.data_mapFields rfl _,?_⟩
  simp
theorem M4 {e : Addr}{cls : String}{tb : Option Addr}{Q : Unit→Shared→Prop}(F : FO A env fs) (hn : ∀ a∈env.locals :: fs,∃ o es ep,h₀.get? a=some o∧o.data=.dict es ep)
 (x : Fly (env.locals :: fs) h₀ s.heap e cls tb) (k : ∀ h' T,Fly (env.locals :: fs) h₀ h' e cls (some T)→Q () { s with heap:=h' }) :
 wpAny M A (noteFrame (.ref e) env) (fun o_ s'=>wpAny M A (setFlight (.ref e) none) Q E s') E s:=by
 obtain⟨oe,vs,he,hcls,hd,h1⟩:=x.exc
 unfold noteFrame
 simp only[F.own]
 refine wpAny_bind (wpAny_field he hd h1 ?_)
 cases tb with
 | none =>
  rw[if_neg (by decide)]
  exact Se F hn x k
 | some T =>
  obtain⟨hT0,hTe,oT,ts,hT,hdT,h3⟩:=x.trc T rfl
  rw[if_pos (show (Value.ref T != Value.none)=true from by simp)]
  refine wpAny_bind (wpAny_field hT hdT h3 ?_)
  rw[if_neg (show ¬ ((Value.none == rawInt env.locals)=true) from by simp[rawInt])]
  refine wpAny_bind (wpAny_setField hT hdT (Array.getElem?_eq_some_iff.mp h3).1 ?_)
  have hs : Heap.SameBut T s.heap (s.heap.update T (Obj.mapFields (·.setIfInBounds 3 .none))):=Heap.SameBut.update ..
  have ne : ∀ b o,h₀.get? b=some o→b≠T:=fun b o hb q=>by rw[q,hT0] at hb;cases hb
  refine Se (tb:=some T) (s:={ s with heap:=s.heap.update T (Obj.mapFields (·.setIfInBounds 3 .none)) }) F hn ⟨fun b o hb hS=>(hs.2 b (ne b o hb)).trans (x.keep b o hb hS),fun b o hb hS=>?_,x.new,⟨oe,vs,(hs.2 e (Ne.symm hTe)).trans he,hcls,hd,h1⟩,fun T' hT'=>?_⟩ k
  ·obtain⟨sl,z⟩:=x.slots b o hb hS
   exact⟨sl,(hs.2 b (ne b o hb)).trans z⟩
  ·cases hT'
   exact⟨hT0,hTe,_,_,Heap.get?_update_self _ hT (Obj.isFreed_of_fields (Obj.data_mapFields hdT _)),Obj.data_mapFields hdT _,by
    have:=(Array.getElem?_eq_some_iff.mp h3).1
    simp[this]⟩
end
theorem Led.frames (H : Led c env g ns vs as os h) : ∀ a∈env.locals :: g.fs,∃ o es ep,h.get? a=some o∧o.data=.dict es ep:=fun a ha=>by
 rcases List.mem_cons.mp ha with rfl | ha
 ·obtain⟨o,es,ep,e,d,o_⟩:=H.fr.ns;exact⟨o,es,ep,e,d⟩
 ·obtain⟨p,hp,rfl⟩:=Ng ha
  obtain⟨o,es,ep,e,d,o_⟩:=H.fo p hp;exact⟨o,es,ep,e,d⟩
theorem Fly.toNs {S : List Addr}{h h' : Heap}{e : Addr}{cls : String}{tb : Option Addr}(x : Fly S h h' e cls tb) {a : Addr}{m : Str→Option Value}(n : h.Ns a m) : h'.Ns a m:=by
 obtain⟨o,es,ep,he,hd,r⟩:=n
 obtain⟨o',h1,h2⟩:=x.someW he
 exact⟨o',es,ep,h1,h2.trans hd,r⟩
theorem Led.exc (H : Led c env g ns vs as os h) {h' : Heap}{e : Addr}{cls : String}{tb : Option Addr}(x : Fly (env.locals :: g.fs) h h' e cls tb) : Led c env g ns vs as os h':=by
 have kp : g.hp.StaysIn h':=fun b o q=>x.keep b o (H.keep b o q) fun z=>H.cold q (List.mem_append_left _ z)
 refine⟨H.eo,H.base,⟨x.toNs H.fr.ns,fun b o q=>kp _ _ (H.low _ _ q),H.fr.above⟩,H.low,kp,H.lg,fun p hp=>x.toNs (H.fo p hp),H.fd,H.fg,H.fa,H.len,H.nd,H.nl,H.new,fun i a o ea eo=>?_⟩
 have hm:=Nd ea
 refine (H.at_ i a o ea eo).mono fun ob e=>x.keep a ob e fun q=>?_
 rcases List.mem_cons.mp q with q | q
 ·exact H.nl (q ▸ hm)
 ·exact H.fa a q hm
theorem Fly.of_new {S : List Addr}{h h' : Heap}{e : Addr}{cls : String}(x : Heap.NewExc h h' e cls) : Fly S h h' e cls none:=
 ⟨fun b o hb o_=>x.keeps b o hb,fun b o hb o_=>⟨o.slots,x.keeps b o hb⟩,x.new,(by obtain⟨ob,t,h1,h2,h3⟩:=x.there;exact⟨ob,_,h1,h2,h3,by simp⟩),fun T hT=>by cases hT⟩
theorem Fly.less {S : List Addr}{L : Addr}{h h₁ h' : Heap}{e : Addr}{cls : String}{tb : Option Addr}(x : Fly (L :: S) h₁ h' e cls tb) (k : ∀ b o,h.get? b=some o→h₁.get? b=some o) (hL : h.get? L=none) : Fly S h h' e cls tb:=by
 have no : ∀ a,h₁.get? a=none→h.get? a=none:=fun a ha=>by
  cases q : h.get? a with
  | none=>rfl
  | some o=>have:=k _ _ q;rw[ha] at this;cases this
 refine⟨fun b o hb hS=>x.keep b o (k _ _ hb) fun q=>?_,fun b o hb hS=>x.slots b o (k _ _ hb) (.tail _ hS),no _ x.new,x.exc,fun T hT=>have q:=x.trc T hT;⟨no _ q.1,q.2⟩⟩
 rcases List.mem_cons.mp q with q | q
 ·rw[q,hL] at hb;cases hb
 ·exact hS q
theorem FO.toFR {A : Around}{env : Env}{fs : List Addr}(F : FO A env fs) : FR A (env.locals :: fs):=by
 obtain⟨outer,hfr,hm⟩:=F.fr
 refine⟨env :: outer,hfr,fun x hx=>?_⟩
 rcases List.mem_cons.mp hx with rfl | hx
 ·exact⟨F.knd,_,.head _,F.own⟩
 ·obtain⟨k,a,ha,e⟩:=hm x hx;exact⟨k,a,.tail _ ha,e⟩
theorem FR.more {A : Around}{fs : List Addr}(F : FR A fs) (a : Addr) : FR A (a :: fs):=by
 obtain⟨l,hl,hm⟩:=F.fr
 exact⟨l,hl,fun x hx=>have q:=hm x hx;⟨q.1,q.2.imp fun b e=>⟨.tail _ e.1,e.2⟩⟩⟩
theorem FR.deep {A : Around}{fs : List Addr}(F : FR A fs) {env' : Env}(hk : env'.scope.kind=.function) (ho : env'.frame=some env'.locals) : FO (A.deeper env') env' fs:=by
 obtain⟨l,hl,hm⟩:=F.fr
 refine⟨⟨l,?_,hm⟩,by rw[hk];decide,ho⟩
 show A.frames.map (env' :: ·)=_;rw[hl];rfl
theorem FO.deep {A : Around}{env : Env}{fs : List Addr}(F : FO A env fs) {env' : Env}(hk : env'.scope.kind=.function) (ho : env'.frame=some env'.locals) : FO (A.deeper env') env' (env.locals :: fs):=F.toFR.deep hk ho
theorem w_fnX {f : Addr}{fd : FuncData}{body : List Stmt}{ps rs : List Str}{xs : List Value}{Q : Value→Heap→Prop}{cls : String}(H : Led c env g ns vs as os h) (FA : FR A (env.locals :: g.fs)) (F : FnK f fd body (ps ++ rs)) (hroom : A.depth < recursionLimit)
 (hb : bindArgs fd ⟨xs,[]⟩=pure (ps.zip xs)) (hl : ps.length=xs.length) (hcell : ∀ x∈fd.scope.names,x.2≠.cell)
 (k : ∀ L h₁,(∀ b o,h.get? b=some o→h₁.get? b=some o)→FO (A.deeper (callEnv fd L f)) (callEnv fd L f) (subB g h env ns vs as).fs→Led c (callEnv fd L f) (subB g h env ns vs as) (ps ++ rs) (xs.map some ++ List.replicate rs.length none) as os h₁ →
  W c (A.deeper (callEnv fd L f)) (execs body (callEnv fd L f)) (fun fl h₂=>Q (Js fl) h₂) (fun e h₂=>∃ ea tb,e=.ref ea∧Fly (L :: (subB g h env ns vs as).fs) h₁ h₂ ea cls tb) h₁) :
 W c A (call (.ref f) xs) Q (fun e h₂=>∃ ea T,e=.ref ea∧Fly (env.locals :: g.fs) h h₂ ea cls (some T)) h:=Xy fun kk=>by
 refine codeAny_call_def (s:=stt c h kk) (fd:=fd) (body:=body) (binds:=ps.zip xs) hroom (H.kin _ _ (F.obj _)) rfl (H.bs.lim) (codeRec_of H.kin (F.code _)) F.body (.of_eq hb) hcell (fun x hx=>F.kinds _ (List.mem_append_left _ (List.of_mem_zip hx).1)) (fun h₁ hn hk=>?_) F.co F.gen F.knd
 have L1:=H.enter (F.eo h.objs.size) rfl (by rw[Xi hl F.nd];exact hn) hk
 have FR':=FA.deep (env':=callEnv fd h.objs.size f) F.knd rfl
 have hnone : h.get? h.objs.size=none:=by
  cases q : h.get? h.objs.size with
  | none=>rfl
  | some o=>exact absurd (Heap.lt_size q) (Nat.lt_irrefl _)
 refine wpAny_mono (k _ _ hk FR' L1 _) (fun fl s' q=>?_) fun e s' q=>?_
 ·cases fl <;> exact q
 ·obtain⟨o,ea,tb,rfl,x⟩:=q
  rw[o.eq]
  unfold leaving
  refine wpAny_bind (M4 (s:=stt c s'.heap s'.toks) FR' L1.frames x fun h₂ T x'=>⟨⟨rfl,rfl,rfl⟩,ea,T,rfl,x'.less hk hnone⟩)
theorem Fly.typeIs {S : List Addr}{h₀ : Heap}{s : Shared}{e : Addr}{cls : String}{tb : Option Addr}(x : Fly S h₀ s.heap e cls tb) : s.TypeIs (.ref e) cls:=by obtain⟨oe,vs,a,b,_⟩:=x.exc;exact⟨oe,a,b⟩
theorem sb_try {body suite rest : List Stmt}{b0 : Stmt}{t : Expr}{p p' : Pos}{Q : Flow→Heap→Prop}{cls T : String}{vs' : List (Option Value)}{as' : List Addr}{os' : List Sp}(FA : FO A env g.fs)
 (hT : ∀ (B : Around) (h : Heap),Led c env g ns vs' as' os' h→W c B (eval t env) (fun v h'=>h'=h∧v=.type T) noX h)
 (hexc : isSubtype (.type T) (.type "BaseException")=pure true) (hnt : isSubtype (.type ((Manifest.find? T).elim "type" fun x=>x.metatype)) (.type "tuple")=pure false) (hsub : isSubtype (.type cls) (.type T)=pure true)
 (x : ∀ h,Led c env g ns vs as os h→W c A (execs body env) (Ml c A env rest Q X) (fun e h'=>Ex3 fun ea tb h₁=>An3 (e=.ref ea) (Led c env g ns vs' as' os' h₁) (Fly (env.locals :: g.fs) h₁ h' ea cls tb)) h)
 (y : ∀ e h,Led c env g ns vs' as' os' h→W c (A.mark (some (.ref e))) (execs (b0 :: suite) env) (Ml c A env rest Q X) noX h) :
 SB c A env (.Try body [.ExceptHandler (some t) none (b0 :: suite) p'] [] [] p :: rest) g ns vs as os Q X:=fun h H=>Yz fun kk=>by
 refine wpAny_Try_except (wpAny_mono (x h H kk) (fun f s1 q=>?_) fun e s1 q=>?_)
 ·cases f with
  | next=>exact wpAny_execs_nil q
  | _=>exact q
 ·obtain⟨o,ea,tb,h₁,rfl,H1,x⟩:=q
  rw[o.eq]
  refine M4 (s:=stt c s1.heap s1.toks) FA H1.frames x fun h₂ T' x'=>?_
  show wpAny (mdl c) A _ _ _ (stt c h₂ s1.toks)
  refine wpAny_handleBy_builtin (b:=true) hexc hnt hsub (wpAny_mono (hT _ h₂ (H1.exc x') _) (fun v s2 q=>?_) fun o_ o_ q=>q.2.elim)
  obtain⟨q1,q2,q3⟩:=q
  refine⟨q3,?_,?_⟩
  ·rw[q1.eq,q2];exact Fly.typeIs (s:=stt c h₂ s2.toks) x'
  ·rw[if_pos rfl,q1.eq,q2]
   obtain⟨oe,ws,he,hcls,hd,h1⟩:=x'.exc
   obtain⟨hT0,hTe,oT,ts,hT1,hdT,h3⟩:=x'.trc T' rfl
   refine wpAny_setFlight_none (s:=stt c h₂ s2.toks) he hd h1 hT1 hdT (Array.getElem?_eq_some_iff.mp h3).1 ?_
   have hs : Heap.SameBut T' h₂ (h₂.update T' (Obj.mapFields (·.setIfInBounds 3 .none))):=Heap.SameBut.update ..
   have ne : ∀ b o,h₁.get? b=some o→b≠T':=fun b o hb q=>by rw[q,hT0] at hb;cases hb
   have x3 : Fly (env.locals :: g.fs) h₁ (h₂.update T' (Obj.mapFields (·.setIfInBounds 3 .none))) ea cls (some T'):=by
    refine⟨fun b o hb hS=>(hs.2 b (ne b o hb)).trans (x'.keep b o hb hS),fun b o hb hS=>?_,x'.new,⟨oe,ws,(hs.2 ea (Ne.symm hTe)).trans he,hcls,hd,h1⟩,fun T2 hT2=>?_⟩
    ·obtain⟨sl,z⟩:=x'.slots b o hb hS
     exact⟨sl,(hs.2 b (ne b o hb)).trans z⟩
    ·cases hT2
     exact⟨hT0,hTe,_,_,Heap.get?_update_self _ hT1 (Obj.isFreed_of_fields (Obj.data_mapFields hdT _)),Obj.data_mapFields hdT _,by
      have:=(Array.getElem?_eq_some_iff.mp h3).1
      simp[this]⟩
   refine wpAny_mono (y ea _ (H1.exc x3) _) (fun f s3 q=>?_) fun o_ o_ q=>q.2.elim
   cases f <;> exact q
theorem Jl {a : Addr}{l : List Value}{Q : Value→Heap→Prop}(H : Led c env g ns vs as os h) (z : Loc g as os a (.li l)) (k : ∀ it h',Led c env g ns vs (as ++ [it]) (os ++ [.itL a 0]) h'→Q (.ref it) h') : W c A (pyIter (.ref a)) Q X h:=fun kk =>
 wpAny_pyIter_list (s:=stt c h kk) (H.get z).isList ⟨⟨rfl,rfl,rfl⟩,k _ _ (H.alloc rfl ⟨rfl,rfl⟩)⟩
theorem At.isTuple {a : Addr}{l : List Value}(x : At h a (.tu l)) : h.IsTuple a l.toArray:=x
theorem Vl {a : Addr}{l : List Value}{Q : Value→Heap→Prop}(H : Led c env g ns vs as os h) (z : Loc g as os a (.tu l)) (k : ∀ it h',Led c env g ns vs (as ++ [it]) (os ++ [.itT a 0]) h'→Q (.ref it) h') : W c A (pyIter (.ref a)) Q X h:=fun kk =>
 wpAny_pyIter_tuple (s:=stt c h kk) (H.get z).isTuple ⟨⟨rfl,rfl,rfl⟩,k _ _ (H.alloc rfl ⟨rfl,rfl⟩)⟩
theorem w_nextL {it a : Addr}{l : List Value}{i j : Nat}{v : Value}{Q : Option Value→Heap→Prop}(H : Led c env g ns vs as os h) (hi : as[j]?=some it) (ho : os[j]?=some (.itL a i)) (z : Loc g as os a (.li l)) (hv : l[i]?=some v)
 (k : ∀ h',Led c env g ns vs as (os.set j (.itL a (i + 1))) h'→Q (some v) h') : W c A (pyNext (.ref it)) Q X h:=fun kk=>by
 obtain⟨o,e,hc,hd⟩:=H.at_ j it _ hi ho
 exact wpAny_pyNext_list_item (s:=stt c h kk) ⟨o,e,hc,hd⟩ (H.get z).isList (by simpa using hv) fun h' h1 h2=>⟨⟨rfl,rfl,rfl⟩,k h' (H.upd hi ho h2 h1)⟩
theorem w_stopL {it a : Addr}{l : List Value}{i j : Nat}{Q : Option Value→Heap→Prop}(hh : A.handled=none) (H : Led c env g ns vs as os h) (hi : as[j]?=some it) (ho : os[j]?=some (.itL a i)) (z : Loc g as os a (.li l)) (hv : l.length≤i)
 (k : ∀ h',Led c env g ns vs (as.eraseIdx j) (os.eraseIdx j) h'→Q none h') : W c A (pyNext (.ref it)) Q X h:=fun kk=>by
 obtain⟨o,e,hc,hd⟩:=H.at_ j it _ hi ho
 exact wpAny_pyNext_list_end (s:=stt c h kk) hh ⟨o,e,hc,hd⟩ (H.get z).isList (by simpa using hv) fun h' h1=>⟨⟨rfl,rfl,rfl⟩,k h' (H.drop hi fun b o hb e=>h1 b o hb e)⟩
theorem w_nextT {it a : Addr}{l : List Value}{i j : Nat}{v : Value}{Q : Option Value→Heap→Prop}(H : Led c env g ns vs as os h) (hi : as[j]?=some it) (ho : os[j]?=some (.itT a i)) (z : Loc g as os a (.tu l)) (hv : l[i]?=some v)
 (k : ∀ h',Led c env g ns vs as (os.set j (.itT a (i + 1))) h'→Q (some v) h') : W c A (pyNext (.ref it)) Q X h:=fun kk=>by
 obtain⟨o,e,hc,hd⟩:=H.at_ j it _ hi ho
 exact wpAny_pyNext_tuple_item (s:=stt c h kk) ⟨o,e,hc,hd⟩ (H.get z).isTuple (by simpa using hv) fun h' h1 h2=>⟨⟨rfl,rfl,rfl⟩,k h' (H.upd hi ho h2 h1)⟩
theorem w_stopT {it a : Addr}{l : List Value}{i j : Nat}{Q : Option Value→Heap→Prop}(hh : A.handled=none) (H : Led c env g ns vs as os h) (hi : as[j]?=some it) (ho : os[j]?=some (.itT a i)) (z : Loc g as os a (.tu l)) (hv : l.length≤i)
 (k : ∀ h',Led c env g ns vs (as.eraseIdx j) (os.eraseIdx j) h'→Q none h') : W c A (pyNext (.ref it)) Q X h:=fun kk=>by
 obtain⟨o,e,hc,hd⟩:=H.at_ j it _ hi ho
 exact wpAny_pyNext_tuple_end (s:=stt c h kk) hh ⟨o,e,hc,hd⟩ (H.get z).isTuple (by simpa using hv) fun h' h1=>⟨⟨rfl,rfl,rfl⟩,k h' (H.drop hi fun b o hb e=>h1 b o hb e)⟩
theorem w_nextR {it : Addr}{x left : Int}{j : Nat}{Q : Option Value→Heap→Prop}(H : Led c env g ns vs as os h) (hi : as[j]?=some it) (ho : os[j]?=some (.itR x left 1)) (hl : 0 < left)
 (k : ∀ t h',Led c env g ns vs as (os.set j (.itR (x + 1) (left - 1) 1)) h'→Q (some (.int x t)) h') : W c A (pyNext (.ref it)) Q X h:=fun kk=>by
 obtain⟨o,e,hc⟩:=H.at_ j it _ hi ho
 subst hc
 exact wpAny_pyNext_range_item (s:=stt c h kk) e hl fun h' h1 h2=>⟨⟨rfl,rfl,rfl⟩,k _ h' (H.upd hi ho h2 ⟨_,h1,rfl⟩)⟩
theorem w_stopR {it : Addr}{x left : Int}{j : Nat}{Q : Option Value→Heap→Prop}(hh : A.handled=none) (H : Led c env g ns vs as os h) (hi : as[j]?=some it) (ho : os[j]?=some (.itR x left 1)) (hl : left≤0)
 (k : ∀ h',Led c env g ns vs (as.eraseIdx j) (os.eraseIdx j) h'→Q none h') : W c A (pyNext (.ref it)) Q X h:=fun kk=>by
 obtain⟨o,e,hc⟩:=H.at_ j it _ hi ho
 subst hc
 exact wpAny_pyNext_range_end (s:=stt c h kk) hh e hl fun h' h1=>⟨⟨rfl,rfl,rfl⟩,k h' (H.drop hi fun b o hb e=>h1 b o hb e)⟩
theorem Yp {x : Str}{p : Pos}{v : Value}{v0 : Option Value}{Q : Unit→Heap→Prop}(i : Nat) (hn : ns[i]?=some x) (hi : vs[i]?=some v0) (H : Led c env g ns vs as os h) (k : ∀ h',Led c env g ns (vs.set i (some v)) as os h'→Q () h') :
 W c A (assign (.Name x p) env v) Q X h:=fun kk=>by
 rw[show assign (.Name x p) env v=(do standAt p;bindName env x v) from rfl]
 exact wpAny_bind (wpAny_standAt (wpAny_bindName (Zp i hn hi H k kk)))
theorem Led.other (H : Led c env g ns vs as os h) {a : Addr}{h' : Heap}(hs : Heap.SameBut a h h') (h1 : env.locals≠a) (h2 : a ∉ g.fs) (h3 : g.hp.get? a=none) (h4 : a ∉ as) : Led c env g ns vs as os h':=by
 have kp : g.hp.StaysIn h':=fun b x q=>(hs.2 b (fun z=>by rw[z,h3] at q;cases q)).trans (H.keep b x q)
 refine⟨H.eo,H.base,⟨H.fr.ns.sameBut hs h1,fun b x q=>kp _ _ (H.low _ _ q),H.fr.above⟩,H.low,kp,H.lg,fun p hp=>(H.fo p hp).sameBut hs (fun e=>h2 (e ▸ Vy hp)),H.fd,H.fg,H.fa,H.len,H.nd,H.nl,H.new,fun j b x eb ex=>?_⟩
 have hb : b≠a:=fun z=>h4 (z ▸ Nd eb)
 exact (H.at_ j b x eb ex).mono fun o e=>(hs.2 b hb).trans e
theorem Led.take (H : Led c env g ns vs as os h) (n : Nat) : Led c env g ns vs (as.take n) (os.take n) h:=by
 have sub : ∀ b∈as.take n,b∈as:=fun b hb=>List.mem_of_mem_take hb
 refine⟨H.eo,H.base,H.fr,H.low,H.keep,H.lg,H.fo,H.fd,H.fg,fun a ha q=>H.fa a ha (sub a q),by simp[H.len],H.nd.sublist (List.take_sublist ..),fun q=>H.nl (sub _ q),fun a ha=>H.new a (sub a ha),fun i a x e k=>?_⟩
 rw[List.getElem?_take] at e k
 split at e
 ·rename_i hi
  rw[if_pos hi] at k
  exact H.at_ i a x e k
 ·cases e
noncomputable def Y1 (scope : Scope) (cl : List (Str × Addr)) (C : Addr) (env : Env) : Env:=compEnvC scope cl C env
theorem Vk : ∀ (ns : List Str) (y : Str),Ja ns (ns.map fun o_=>none) y=none
 | [],_=>rfl
 | n :: ns,y=>by simp only[List.map_cons,Ja];split;rfl;exact Vk ns y
theorem w_compEnv {scope : Scope}{cl : List (Str × Addr)}{ns' : List Str}{Q : Env→Heap→Prop}(H : Led c env g ns vs as os h) (hcell : ∀ x∈scope.names,x.2≠.cell) (hk : scope.kind=.function)
 (eo : ∀ D,EO (Y1 scope cl D env) ns')
 (k : ∀ D h',Led c (Y1 scope cl D env) (subB g h env ns vs as) ns' (ns'.map fun o_=>none) as os h'→(∀ b o,h.get? b=some o→h'.get? b=some o)→Q (newEnv scope D env.globals cl env.qual none .none (some env) builtinsNs) h') :
 W c A (newFunctionEnv scope env.globals cl [] env.qual none .none (some env)) Q X h:=fun kk=>by
 refine wpAny_newFunctionEnv (s:=stt c h kk) hcell (fun x hx=>by cases hx) (fun h' hn hs=>⟨⟨rfl,rfl,rfl⟩,?_⟩) hk
 have kp : ∀ b o,h.get? b=some o→h'.get? b=some o:=fun b o e=>hs.extBut b o (Nat.ne_of_lt (Heap.lt_size e)) (Heap.get?_push_of_some _ e)
 refine k h.objs.size h' (H.enter (eo _) rfl ?_ kp) kp
 have : (fun x=>([] : List (Str × Value)).reverse.lookup x)=Ja ns' (ns'.map fun o_=>none):=by funext y;rw[Vk];rfl
 rw[← this];exact hn
theorem EV.run {e : Expr}{R : Value→Prop}{Q : Value→Heap→Prop}(x : EV c A env e g ns vs as os R) (H : Led c env g ns vs as os h) (k : ∀ v,R v→Q v h) : W c A (eval e env) Q X h:=Jy (x h H) k
theorem EV.runI {e : Expr}{n : Int}{Q : Value→Heap→Prop}(x : EV c A env e g ns vs as os (isI n)) (H : Led c env g ns vs as os h) (k : ∀ t,Q (.int n t) h) : W c A (eval e env) Q X h:=x.run H fun _ q=>q.elim fun t e=>e ▸ k t
theorem EV.runS {e : Expr}{n : Str}{Q : Value→Heap→Prop}(x : EV c A env e g ns vs as os (isS n)) (H : Led c env g ns vs as os h) (k : ∀ t,Q (.str n t) h) : W c A (eval e env) Q X h:=x.run H fun _ q=>q.elim fun t e=>e ▸ k t
theorem EV.eq {e : Expr}{v : Value}{Q : Value→Heap→Prop}(x : EV c A env e g ns vs as os (·=v)) (H : Led c env g ns vs as os h) (k : Q v h) : W c A (eval e env) Q X h:=Jy (x h H) fun o_ q=>q ▸ k
noncomputable def WS (c : Cx) (A : Around) (env : Env) (es : List Expr) (pos : Pos) (Q : List Value→Heap→Prop) (X : Value→Heap→Prop) (h : Heap) : Prop:=W c A (spliced (backTo pos (starEach es env))) Q X h
theorem Zd {pos : Pos}{Q : List Value→Heap→Prop}(k : Q [] h) : WS c A env [] pos Q X h:=fun kk=>wpAny_items_nil ⟨⟨rfl,rfl,rfl⟩,k⟩
theorem Zi {pos : Pos}{e : Expr}{es : List Expr}{Q : List Value→Heap→Prop}(x : W c A (eval e env) (fun v h'=>WS c A env es pos (fun l h''=>Q (v :: l) h'') X h') X h)
 (he : autoParam (starEach (e :: es) env=(false,eval e env) :: starEach es env) zR) : WS c A env (e :: es) pos Q X h:=fun kk =>
 wpAny_items_cons (wpAny_mono (x kk) (fun v s1 q=>Zy q.2 q.1) fun o_ o_ q=>q) he
theorem Zq {pos : Pos}{e : Expr}{es : List Expr}{v : Value}{Q : List Value→Heap→Prop}(H : Led c env g ns vs as os h) (x : EV c A env e g ns vs as os (·=v)) (y : WS c A env es pos (fun l h''=>Q (v :: l) h'') X h)
 (he : autoParam (starEach (e :: es) env=(false,eval e env) :: starEach es env) zR) : WS c A env (e :: es) pos Q X h:=Zi (x.eq H y) he
theorem Y7 {pos : Pos}{e : Expr}{es : List Expr}{n : Int}{Q : List Value→Heap→Prop}(H : Led c env g ns vs as os h) (x : EV c A env e g ns vs as os (isI n)) (y : ∀ t,WS c A env es pos (fun l h''=>Q (.int n t :: l) h'') X h)
 (he : autoParam (starEach (e :: es) env=(false,eval e env) :: starEach es env) zR) : WS c A env (e :: es) pos Q X h:=Zi (x.runI H y) he
theorem Yl {f : Str}{fp pos : Pos}{e : Expr}{es : List Expr}{a : Addr}{Q : Value→Heap→Prop}(H : Led c env g ns vs as os h) (hf : EV c A env (.Name f fp) g ns vs as os (·=.ref a)) (hk : Jc a)
 (x : WS c A env (e :: es) pos (fun l h'=>(K c.w.params).In h'∧W c A (call (.ref a) l) Q X h') X h)
 (he : autoParam (starEach (e :: es) env=(false,eval e env) :: starEach es env) zR) (hplain : autoParam ((backTo pos (starEach es env)).any (·.1)=false) zR) :
 W c A (eval (.Call (.Name f fp) (e :: es) [] pos) env) Q X h:=fun k =>
 wpAny_Call_Name_kw (wpAny_mono (hf h H k) (fun v s1 q=>by
  rw[q.1.eq,q.2.1,q.2.2]
  refine callWith_K (first:=[]) H.bs.kin (hk _) (wpAny_mono (x _) (fun l s2 q2=>⟨?_,?_⟩) fun o_ o_ q=>q) he hplain
  ·exact q2.2.1
  ·exact Zy q2.2.2 q2.1) fun o_ o_ q=>⟨q.1,q.2.elim⟩)
theorem Xj {f : Str}{fp pos : Pos}{e : Expr}{es : List Expr}{id : String}{Q : Value→Heap→Prop}(H : Led c env g ns vs as os h) (hf : EV c A env (.Name f fp) g ns vs as os (·=.builtin id))
 (x : WS c A env (e :: es) pos (fun l h'=>W c A (call (.builtin id) l) Q X h') X h)
 (he : autoParam (starEach (e :: es) env=(false,eval e env) :: starEach es env) zR) (hplain : autoParam ((backTo pos (starEach es env)).any (·.1)=false) zR) :
 W c A (eval (.Call (.Name f fp) (e :: es) [] pos) env) Q X h:=fun k =>
 wpAny_Call_Name_kw (wpAny_mono (hf h H k) (fun v s1 q=>by
  rw[q.1.eq,q.2.1,q.2.2]
  have x':=x s1.toks
  show wpAny (mdl c) A (callWith pos (.builtin id) [] (backTo pos (starEach (e :: es) env)) []) _ _ _
  rw[he] at x' ⊢
  exact Calls.callWith_builtin (first:=[]) (by show (false || (backTo pos (starEach es env)).any (·.1))=false;rw[hplain];rfl) (Calls.evalArgs_plain (wpAny_mono x' (fun l s2 q2=>Zy q2.2 q2.1) fun o_ o_ q=>q))) fun o_ o_ q=>⟨q.1,q.2.elim⟩)
theorem Xo {f : Str}{fp pos : Pos}{e : Expr}{es : List Expr}{T : String}{Q : Value→Heap→Prop}(H : Led c env g ns vs as os h) (hf : EV c A env (.Name f fp) g ns vs as os (·=.type T))
 (x : WS c A env (e :: es) pos (fun l h'=>W c A (call (.type T) l) Q X h') X h)
 (he : autoParam (starEach (e :: es) env=(false,eval e env) :: starEach es env) zR) (hplain : autoParam ((backTo pos (starEach es env)).any (·.1)=false) zR) :
 W c A (eval (.Call (.Name f fp) (e :: es) [] pos) env) Q X h:=fun k =>
 wpAny_Call_Name_kw (wpAny_mono (hf h H k) (fun v s1 q=>by
  rw[q.1.eq,q.2.1,q.2.2]
  exact PyProof.Rows.callWith_type1 (wpAny_mono (x _) (fun l s2 q2=>Zy q2.2 q2.1) fun o_ o_ q=>q) he hplain) fun o_ o_ q=>⟨q.1,q.2.elim⟩)
theorem Xa {o : Expr}{name : Str}{apos pos : Pos}{e : Expr}{es : List Expr}{T id : String}{v : Value}{Q : Value→Heap→Prop}(H : Led c env g ns vs as os h)
 (x : EV c A env o g ns vs as os (·=v)) (pa : PlainAttrs T) (slot : Slot T name id) (hty : typeOf (.builtin id)=pure (.type "method_descriptor"))
 (hT : ∀ k,(stt c h k).TypeIs v T) (hd : ∀ a,v=.ref a→∃ ob,h.get? a=some ob∧ob.dict=none)
 (y : WS c A env (e :: es) pos (fun l h'=>W c A (call (.builtin id) (v :: l)) Q X h') X h)
 (he : autoParam (starEach (e :: es) env=(false,eval e env) :: starEach es env) zR) (hplain : autoParam ((backTo pos (starEach es env)).any (·.1)=false) zR)
 (hbase : autoParam (attributeBase o name env (eval o env)=eval o env) zR)
 (hfew : autoParam (((backTo pos (starEach (e :: es) env)).all (fun x=>!x.1) && (backToKw pos (keywordEach [] env)).all (fun x=>x.1.isSome)
  && decide ((e :: es).length + ([] : List Keyword).length + (if ([] : List Keyword).isEmpty then 0 else 1) < 30))=true) zR)
 (hline : autoParam ((apos.endLine == pos.line)=true) zR) : W c A (eval (.Call (.Attribute o name apos) (e :: es) [] pos) env) Q X h:=fun k =>
 wpAny_Call_method hbase hfew hline pa slot hty (wpAny_mono (x h H k) (fun ov s1 q=>by
  obtain⟨q1,q2,q3⟩:=q
  subst q3
  rw[q1.eq,q2]
  refine⟨hT _,hd,?_⟩
  have x':=y s1.toks
  rw[he] at x' ⊢
  exact Calls.callWith_builtin (first:=[ov]) (by show (false || (backTo pos (starEach es env)).any (·.1))=false;rw[hplain];rfl) (Calls.evalArgs_plain (wpAny_mono x' (fun l s2 q2=>Zy q2.2 q2.1) fun o_ o_ q=>q))) fun o_ o_ q=>⟨q.1,q.2.elim⟩)
theorem Je {es : List Expr}{pos : Pos}{Q : Value→Heap→Prop}(x : WS c A env es pos (fun l h'=>l.length≤sizeLine∧Q (.ref h'.objs.size) (h'.push { cls:=.type "list",data:=.seq l.toArray })) X h) : W c A (eval (.List es pos) env) Q X h:=fun k =>
 wpAny_List (wpAny_mono (x k) (fun l s1 q=>⟨q.2.1,⟨q.1.1,q.1.2.1,q.1.2.2⟩,q.2.2⟩) fun o_ o_ q=>q)
theorem Yr {es : List Expr}{x1 : Nat}{pos : Pos}{Q : Value→Heap→Prop}(x : WS c A env es pos (fun l h'=>l.length≤sizeLine∧Q (.ref h'.objs.size) (h'.push { cls:=.type "tuple",data:=.seq l.toArray })) X h) : W c A (eval (.Tuple es x1 pos) env) Q X h:=fun k =>
 wpAny_Tuple (wpAny_mono (x k) (fun l s1 q=>⟨q.2.1,⟨q.1.1,q.1.2.1,q.1.2.2⟩,q.2.2⟩) fun o_ o_ q=>q)
theorem Led.newL (H : Led c env g ns vs as os h) (l : List Value) : Led c env g ns vs (as ++ [h.objs.size]) (os ++ [.li l]) (h.push { cls:=.type "list",data:=.seq l.toArray }):=H.alloc rfl ⟨0,rfl⟩
theorem Led.newT (H : Led c env g ns vs as os h) (l : List Value) : Led c env g ns vs (as ++ [h.objs.size]) (os ++ [.tu l]) (h.push { cls:=.type "tuple",data:=.seq l.toArray }):=H.alloc rfl ⟨rfl,0,rfl⟩
theorem w_bin {l r : Expr}{op : Operator}{p : Pos}{Q : Value→Heap→Prop}(x : W c A (eval l env) (fun a h₁=>W c A (eval r env) (fun b h₂=>W c A (binaryOp op a b) Q X h₂) X h₁) X h) : W c A (eval (.BinOp l op r p) env) Q X h:=fun k =>
 wpAny_BinOp (wpAny_mono (x k) (fun a s1 q=>wpAny_mono (Zy q.2 q.1) (fun b s2 q2=>Zy q2.2 q2.1) fun o_ o_ q=>q) fun o_ o_ q=>q)
theorem Led.solid (H : Led c env g ns vs (as ++ [a]) (os ++ [sp]) h) : Ex1 fun (g' : Bas)=>An4 (g.hp.StaysIn g'.hp) (g'.fo=g.fo) (Led c env g' ns vs as os h) (At g'.hp a sp):=by
 have hl : as.length=os.length:=by have:=H.len;simp at this;exact this
 have H':=H.take as.length
 rw[List.take_left' rfl,hl,List.take_left' rfl] at H'
 refine⟨ice g h env as,H'.stays,rfl,H'.freeze,?_⟩
 have hat:=H.at_ as.length a sp (by simp) (by rw[hl];simp)
 have nd:=List.nodup_append.mp H.nd
 refine hat.mono fun o e=>Tp e (fun q=>H.nl (by rw[← q];simp)) (fun q=>H.fa a q (by simp)) (fun q=>nd.2.2 a q a (by simp) rfl)
theorem At.stay {g g' : Heap}{a : Addr}{sp : Sp}(x : At g a sp) (k : g.StaysIn g') : At g' a sp:=x.mono fun o e=>k _ _ e
theorem Zt (g : Heap) : g.StaysIn g:=fun o_ o_ e=>e
theorem Zc {a b d : Heap}(x : a.StaysIn b) (y : b.StaysIn d) : a.StaysIn d:=fun p o e=>y p o (x p o e)
structure Wk (c : Cx) (A : Around) (it : Addr) (n : Nat) (sp : Nat→Sp) (I : Nat→Value→Prop) (D : Heap→Prop) : Prop where
 mono : ∀ g g' : Heap,g.StaysIn g'→D g→D g'
 nxt : ∀ {env : Env}{g : Bas}{ns : List Str}{vs : List (Option Value)}{as : List Addr}{os : List Sp}{h : Heap}{i j : Nat},Led c env g ns vs as os h→as[j]?=some it→os[j]?=some (sp i)→D g.hp→i < n →
  W c A (pyNext (.ref it)) (fun r h'=>Ex1 fun v=>An3 (r=some v) (I i v) (Led c env g ns vs as (os.set j (sp (i + 1))) h')) noX h
 stp : ∀ {env : Env}{g : Bas}{ns : List Str}{vs : List (Option Value)}{as : List Addr}{os : List Sp}{h : Heap}{j : Nat},Led c env g ns vs as os h→as[j]?=some it→os[j]?=some (sp n)→D g.hp →
  W c A (pyNext (.ref it)) (fun r h'=>r=none∧Led c env g ns vs (as.eraseIdx j) (os.eraseIdx j) h') noX h
 re : ∀ {env : Env}{g : Bas}{ns : List Str}{vs : List (Option Value)}{as : List Addr}{os : List Sp}{h : Heap}{j : Nat},Led c env g ns vs as os h→as[j]?=some it→os[j]?=some (sp 0) →
  W c A (pyIter (.ref it)) (fun r h'=>r=.ref it∧h'=h) noX h
theorem Xk {it a : Addr}{l : List Value}(hh : A.handled=none) : Wk c A it l.length (fun i=>.itL a i) (fun i v=>l[i]?=some v) (fun g=>At g a (.li l)) where
 mono g g' k x:=x.stay k
 nxt H h1 h2 d hi:=w_nextL H h1 h2 (.fz d) (Nc hi) fun h' H'=>⟨_,rfl,Nc hi,H'⟩
 stp H h1 h2 d:=w_stopL hh H h1 h2 (.fz d) (Nat.le_refl _) fun h' H'=>⟨rfl,H'⟩
 re H h1 h2:=fun kk=>by
  obtain⟨o,e,hc,hd⟩:=H.at_ _ it _ h1 h2
  exact wpAny_pyIter_listiter (s:=stt c _ kk) ⟨o,e,hc,hd⟩ ⟨⟨rfl,rfl,rfl⟩,rfl,rfl⟩
theorem Jn {it a : Addr}{l : List Value}(hh : A.handled=none) : Wk c A it l.length (fun i=>.itT a i) (fun i v=>l[i]?=some v) (fun g=>At g a (.tu l)) where
 mono g g' k x:=x.stay k
 nxt H h1 h2 d hi:=w_nextT H h1 h2 (.fz d) (Nc hi) fun h' H'=>⟨_,rfl,Nc hi,H'⟩
 stp H h1 h2 d:=w_stopT hh H h1 h2 (.fz d) (Nat.le_refl _) fun h' H'=>⟨rfl,H'⟩
 re H h1 h2:=fun kk=>by
  obtain⟨o,e,hc,hd⟩:=H.at_ _ it _ h1 h2
  exact wpAny_pyIter_tupleiter (s:=stt c _ kk) ⟨o,e,hc,hd⟩ ⟨⟨rfl,rfl,rfl⟩,rfl,rfl⟩
theorem J4 {it : Addr}{x : Int}{n : Nat}(hh : A.handled=none) : Wk c A it n (fun i=>.itR (x + i) (n - i) 1) (fun i v=>isI (x + i) v) (fun o_=>True) where
 mono g g' k x:=trivial
 nxt {env g ns vs as os h i j} H h1 h2 d hi:=w_nextR H h1 h2 (Int.sub_pos_of_lt (Int.ofNat_lt.mpr hi)) fun t h' H'=>⟨_,rfl,⟨t,rfl⟩,by
  have e1 : x + ((i + 1 : Nat) : Int)=x + i + 1:=(Int.add_assoc x i 1).symm
  have e2 : (n : Int) - ((i + 1 : Nat) : Int)=n - i - 1:=(Int.sub_sub (n : Int) i 1).symm
  rw[e1,e2];exact H'⟩
 stp H h1 h2 d:=w_stopR hh H h1 h2 (Int.le_of_eq (Int.sub_self _)) fun h' H'=>⟨rfl,H'⟩
 re H h1 h2:=fun kk=>by
  obtain⟨o,e,hc⟩:=H.at_ _ it _ h1 h2
  subst hc
  exact wpAny_pyIter_rangeiter (s:=stt c _ kk) e ⟨⟨rfl,rfl,rfl⟩,rfl,rfl⟩
inductive JL (c : Cx) (env : Env) (ns : List Str) (it : Addr) (sp : Sp) (J : Bas→List (Option Value)→List Addr→List Sp→Prop) (h : Heap) : Prop
 | mk (g : Bas) (vs : List (Option Value)) (as : List Addr) (os : List Sp) (hJ : J g vs as os) (H : Led c env g ns vs (as ++ [it]) (os ++ [sp]) h) : JL c env ns it sp J h
inductive ForP (c : Cx) (A : Around) (env : Env) (target : Expr) (body : List Stmt) (ns : List Str) (Q : Flow→Heap→Prop) (F : Heap→Prop) (itv : Value) (h : Heap) : Prop
 | mk (it : Addr) (n : Nat) (sp : Nat→Sp) (I : Nat→Value→Prop) (D : Heap→Prop) (J : Nat→Bas→List (Option Value)→List Addr→List Sp→Prop) (e : itv=.ref it) (wk : Wk c A it n sp I D)
  (st : JL c env ns it (sp 0) (J 0) h) (hD : ∀ i g vs as os,J i g vs as os→D g.hp)
  (turn : let J':=J;∀ i,let QL:=LoopQ (JL c env ns it (sp (i + 1)) (J' (i + 1))) F Q;∀ g vs as os v h,i < n→J' i g vs as os→I i v→Led c env g ns vs (as ++ [it]) (os ++ [sp (i + 1)]) h→W c A (assign target env v) (fun o_ h''=>W c A (execs body env) QL noX h'') noX h)
  (fn : ∀ g vs as os h,J n g vs as os→Led c env g ns vs as os h→F h) : ForP c A env target body ns Q F itv h
theorem Yt {α : Type}{l : List α}{a b : α}{n : Nat}(hn : n=l.length) : (l ++ [a]).set n b=l ++ [b]:=by subst hn;simp
theorem Ze {α : Type}{l : List α}{a : α}{n : Nat}(hn : n=l.length) : (l ++ [a])[n]?=some a:=by subst hn;simp
theorem Yw {α : Type}{l : List α}{a : α}{n : Nat}(hn : n=l.length) : (l ++ [a]).eraseIdx n=l:=by
 subst hn;rw[List.eraseIdx_append_of_length_le (Nat.le_refl _)];simp
theorem Led.len1 {a : Addr}{o : Sp}(H : Led c env g ns vs (as ++ [a]) (os ++ [o]) h) : as.length=os.length:=by have:=H.len;simp at this;exact this
theorem X9 {target iter : Expr}{body rest : List Stmt}{p : Pos}{Q : Flow→Heap→Prop}(F : Heap→Prop) (x : let F':=F;EX c A env iter g ns vs as os (fun v h'=>W c A (pyIter v) (fun itv h''=>ForP c A env target body ns Q F' itv h'') X h') X)
 (fin : ∀ h,F h→W c A (execs rest env) Q X h)
 (ht : ∀ it v,letOwnedTupleGo target (.ref it) v=pure ():=by intro _ _;rfl)
 (hs : autoParam (∀ x,foldedSetIterable iter env x=pure x) zI) : SB c A env (.For target iter body [] p :: rest) g ns vs as os Q X:=fun h H=>Yz fun kk=>by
 refine wpAny_For (wpAny_mono (x h H kk) (fun v s1 q=>?_) fun o_ o_ q=>q) hs
 refine wpAny_mono (Zy q.2 q.1) (fun itv s2 q2=>?_) fun o_ o_ q=>q
 obtain⟨o2,it,n,sp,I,D,J,rfl,wk,⟨g0,vs0,as0,os0,hJ,H0⟩,hD,turn,fn⟩:=q2
 refine codeAny_mono (codeAny_forLoop (I:=fun m s=>An2 (Okk c s) (Ex1 fun i=>An3 (m=n - i) (i≤n) (JL c env ns it (sp i) (J i) s.heap))) (R:=fun r s'=>match r with | .ok f=>Okk c s'∧(match f with | .next=>W c A (execs rest env) Q X s'.heap | f=>Q f s'.heap) | .error _=>False) (fun m s hI=>?_) n ⟨o2,0,rfl,Nat.zero_le _,g0,vs0,as0,os0,hJ,H0⟩ (ht it)) fun r s' q=>?_
 ·refine Jd ?_
  intro Q2 X2
  obtain⟨o3,i,rfl,hi,g1,vs1,as1,os1,hJ,H1⟩:=hI
  rw[o3.eq]
  rcases Nat.lt_or_ge i n with hlt | hge
  ·refine wpAny_mono (wk.nxt H1 (Ze rfl) (Ze H1.len1) (hD _ _ _ _ _ hJ) hlt _) (fun r s3 q=>?_) fun o_ o_ q=>q.2.elim
   obtain⟨o4,v,rfl,hI,H2⟩:=q
   rw[Yt H1.len1] at H2
   refine wpAny_mono (Zy (turn i _ _ _ _ v _ hlt hJ hI H2) o4) (fun o_ s4 q=>?_) fun o_ o_ q=>q.2.elim
   refine wpAny_mono (Zy q.2 q.1) (fun f s5 q=>?_) fun o_ o_ q=>q.2.elim
   cases f with
   | next=>exact⟨n - (i + 1),Nat.sub_lt_sub_left hlt (Nat.lt_succ_self i),q.1,i + 1,rfl,hlt,q.2⟩
   | cont=>exact⟨n - (i + 1),Nat.sub_lt_sub_left hlt (Nat.lt_succ_self i),q.1,i + 1,rfl,hlt,q.2⟩
   | brk=>exact⟨q.1,fin _ q.2⟩
   | ret v=>exact q
  ·obtain rfl : i=n:=by lia
   refine wpAny_mono (wk.stp H1 (Ze rfl) (Ze H1.len1) (hD _ _ _ _ _ hJ) _) (fun r s3 q=>?_) fun o_ o_ q=>q.2.elim
   obtain⟨o4,rfl,H2⟩:=q
   rw[Yw rfl,Yw H1.len1] at H2
   exact wpAny_execs_nil ⟨o4,fin _ (fn _ _ _ _ _ hJ H2)⟩
 ·cases r with
  | ok f=>cases f <;> exact q
  | error e=>exact q.elim
noncomputable def Tests (c : Cx) (A : Around) (env : Env) (ifs : List Expr) (Q : Bool→Heap→Prop) (X : Value→Heap→Prop) (h : Heap) : Prop:=
 W c A (forIn ifs true fun c r=>if r=true then do let ok ← isTrue c env (eval c env);pure (ForInStep.yield ok) else pure (ForInStep.yield r)) Q X h
theorem tests_nil {Q : Bool→Heap→Prop}(k : Q true h) : Tests c A env [] Q X h:=fun kk=>wpAny_tests_nil ⟨⟨rfl,rfl,rfl⟩,k⟩
theorem M0 {e : Expr}{Q : Bool→Heap→Prop}(k : W c A (isTrue e env (eval e env)) Q X h) : Tests c A env [e] Q X h:=fun kk=>wpAny_tests_one (k kk)
theorem cd_lc {elt target iter : Expr}{ifs : List Expr}{scope : Scope}{pos : Pos}{acc it : Addr}{n : Nat}{sp : Nat→Sp}{I : Nat→Value→Prop}{D : Heap→Prop}(J : Nat→Bas→List (Option Value)→List Addr→List Sp→List Value→Prop)
 (wk : Wk c A it n sp I D) (j p : Nat) {l0 : List Value}(hJ : J 0 g vs as os l0) (H : Led c env g ns vs as os h)
 (hD : ∀ i g vs as os l,J i g vs as os l→D g.hp∧as[j]?=some it∧os[j]?=some (sp i)∧as[p]?=some acc∧os[p]?=some (.li l)∧p≠j∧l.length < 100000)
 (turn : ∀ i g vs as os l v h,i < n→J i g vs as os l→I i v→Led c env g ns vs as (os.set j (sp (i + 1))) h→W c A (assign target env v) (fun o_ h₁=>Tests c A env ifs (fun ok h₂ =>
  if ok=true then W c A (eval elt env) (fun x h₃=>Ex4 fun g' vs' as' os'=>An4 (as'[p]?=some acc) (os'[p]?=some (.li l)) (Led c env g' ns vs' as' os' h₃) (J (i + 1) g' vs' as' (os'.set p (.li (l ++ [x]))) (l ++ [x]))) noX h₂
  else ∃ g' vs' as' os',Led c env g' ns vs' as' os' h₂∧J (i + 1) g' vs' as' os' l) noX h₁) noX h)
 (Fn : Heap→Prop) (fin : ∀ g vs as os l h,J n g vs as os l→Led c env g ns vs (as.eraseIdx j) (os.eraseIdx j) h→Fn h)
 (ht : autoParam (∀ v,letOwnedTupleGo target (.ref it) v=pure ()) zI) :
 CD c A (.compStart (.ListComp elt [⟨target,iter,ifs,0⟩] scope pos) 0 (.ref it) (.ref acc) env) (fun r h'=>(∃ f,r=.ok f)∧Fn h') h:=fun kk=>by
 have loop : ∀ kk,codeAny (mdl c) A (.compLoop (.ListComp elt [⟨target,iter,ifs,0⟩] scope pos) 0 (.ref it) (.ref acc) env) (fun r s'=>Okk c s'∧(∃ f,r=.ok f)∧Fn s'.heap) (stt c h kk):=fun kk=>by
  refine ca_let ?_
  intro R'
  refine codeAny_compLoop_tests (I:=fun m s=>An2 (Okk c s) (Ex6 fun i g vs as os l=>An4 (m=n - i) (i≤n) (J i g vs as os l) (Led c env g ns vs as os s.heap))) (fun m s hI=>?_) n ⟨⟨rfl,rfl,rfl⟩,0,g,vs,as,os,l0,rfl,Nat.zero_le _,hJ,H⟩ ht
  refine Jd ?_
  intro Q2 X2
  obtain⟨o3,i,g1,vs1,as1,os1,l,rfl,hi,hJ,H1⟩:=hI
  obtain⟨d1,d2,d3,d4,d5,d6,d7⟩:=hD _ _ _ _ _ _ hJ
  rw[o3.eq]
  rcases Nat.lt_or_ge i n with hlt | hge
  ·refine wpAny_mono (wk.nxt H1 d2 d3 d1 hlt _) (fun r s3 q=>?_) fun o_ o_ q=>q.2.elim
   obtain⟨o4,v,rfl,hI,H2⟩:=q
   refine wpAny_mono (Zy (turn i _ _ _ _ l v _ hlt hJ hI H2) o4) (fun o_ s4 q=>?_) fun o_ o_ q=>q.2.elim
   refine wpAny_mono (Zy q.2 q.1) (fun ok s5 q=>?_) fun o_ o_ q=>q.2.elim
   cases ok with
   | false =>
    obtain⟨o5,g',vs',as',os',H5,J5⟩:=q
    exact⟨n - (i + 1),Nat.sub_lt_sub_left hlt (Nat.lt_succ_self i),o5,i + 1,g',vs',as',os',l,rfl,hlt,J5,H5⟩
   | true =>
    simp only[if_true] at q ⊢
    refine wpAny_mono (Zy q.2 q.1) (fun x s6 q=>?_) fun o_ o_ q=>q.2.elim
    obtain⟨o6,g',vs',as',os',e1,e2,H6,J6⟩:=q
    rw[o6.eq]
    obtain⟨m,hm⟩:=(H6.at_ p acc _ e1 e2).li
    refine call_meets (s:=stt c s6.heap s6.toks) F.slot_list_append ⟨_,hm,rfl⟩ F.entry_list_append (F.args_list_append_2 _ _) (list_append acc l.toArray m x (by simp;rw[sizeLine_eq];exact q3 ‹_› (by decide))) ⟨hm,?_⟩
    exact⟨n - (i + 1),Nat.sub_lt_sub_left hlt (Nat.lt_succ_self i),⟨rfl,rfl,rfl⟩,i + 1,g',vs',as',_,l ++ [x],rfl,hlt,J6,H6.upd_li e1 e2 hm (by simp)⟩
  ·obtain rfl : i=n:=by lia
   refine wpAny_mono (wk.stp H1 d2 d3 d1 _) (fun r s3 q=>?_) fun o_ o_ q=>q.2.elim
   obtain⟨o4,rfl,H2⟩:=q
   exact⟨o4,⟨_,rfl⟩,fin _ _ _ _ _ _ hJ H2⟩
 refine codeAny_compStart_list (loop kk) (wpAny_mono (wk.re H (hD _ _ _ _ _ _ hJ).2.1 (hD _ _ _ _ _ _ hJ).2.2.1 kk) (fun r s' q=>?_) fun o_ o_ q=>q.2.elim)
 obtain⟨o1,rfl,e⟩:=q
 rw[o1.eq,e]
 exact loop _
structure LcK (scope : Scope) (cl : List (Str × Addr)) (env : Env) (ns' : List Str) : Prop where
 cell : ∀ x∈scope.names,x.2≠.cell
 knd : scope.kind=.function
 names : ∀ x∈scope.names,x.2=.local→scope.names.lookup x.1=some .local
 clos : closureFor scope env=pure cl
 kinds : ∀ x∈ns',scope.names.lookup x=some .local
 nd : ns'.Nodup
 dbg : Str.ofString "__debug__" ∉ ns'
theorem LcK.eo {scope : Scope}{cl : List (Str × Addr)}{ns' : List Str}(L : LcK scope cl env ns') (E : EO env ns) (D : Addr) : EO (Y1 scope cl D env) ns':=⟨L.knd,fun x hx=>lookup_relabel_local (L.kinds x hx),L.nd,L.dbg,E.glob,E.bi⟩
inductive LcR (c : Cx) (env' : Env) (gE : Bas) (ns' : List Str) (as : List Addr) (acc : Addr) (os : List Sp) (P : Heap→List Value→Prop) (r : Result) (h : Heap) : Prop
 | mk (f : Flow) (er : r=.ok f) (g' : Bas) (vs' : List (Option Value)) (l : List Value) (k1 : gE.hp.StaysIn g'.hp) (k2 : g'.fo=gE.fo) (H : Led c env' g' ns' vs' (as ++ [acc]) (os ++ [.li l]) h) (hP : P g'.hp l) : LcR c env' gE ns' as acc os P r h
inductive LcZ (c : Cx) (env : Env) (g : Bas) (ns : List Str) (vs : List (Option Value)) (as : List Addr) (acc : Addr) (os : List Sp) (P : Heap→List Value→Prop) (E : Addr) (r : Result) (h : Heap) : Prop
 | mk (f : Flow) (er : r=.ok f) (m : Str→Option Value) (hm : h.Ns E m) (g' : Bas) (l : List Value) (H : Led c env g' ns vs (as ++ [acc]) (os ++ [.li l]) h) (b1 : env.locals≠E) (b2 : E ∉ g'.fs) (b3 : g'.hp.get? E=none) (b4 : E ∉ as ++ [acc]) (hP : P g'.hp l) (k1 : g.hp.StaysIn g'.hp) (k2 : g'.fo=g.fo) : LcZ c env g ns vs as acc os P E r h
inductive LcC (c : Cx) (A : Around) (env : Env) (g : Bas) (ns : List Str) (vs : List (Option Value)) (as : List Addr) (os : List Sp) (cl : List (Str × Addr)) (ns' : List Str) (e : Expr) (scope : Scope) (vf : Addr→List (Option Value)) (Q : Value→Heap→Prop) (itv : Value) (h : Heap) : Prop
 | mk (g₁ : Bas) (it : Addr) (sp : Sp) (P : Heap→List Value→Prop) (st : g.hp.StaysIn g₁.hp) (fo : g₁.fo=g.fo) (ei : itv=.ref it) (H : Led c env g₁ ns vs (as ++ [it]) (os ++ [sp]) h)
  (cd : ∀ (acc E : Addr) (gE : Bas) h',g₁.hp.StaysIn gE.hp→gE.fo=(env.locals,Ja ns vs) :: g₁.fo→Led c (Y1 scope cl E env) gE ns' (ns'.map fun o_=>none) (as ++ [it] ++ [acc]) (os ++ [sp] ++ [.li []]) h' →
   CD c A (.compStart e 0 (.ref it) (.ref acc) (Y1 scope cl E env)) (LcR c (Y1 scope cl E env) gE ns' as acc os P) h')
  (fin : ∀ (g' : Bas) l h' acc,P g'.hp l→g₁.hp.StaysIn g'.hp→g'.fo=g₁.fo→Led c env g' ns (vf acc) (as ++ [acc]) (os ++ [.li l]) h'→Q (.ref acc) h') : LcC c A env g ns vs as os cl ns' e scope vf Q itv h
inductive LcG (c : Cx) (A : Around) (env : Env) (g : Bas) (ns : List Str) (vs : List (Option Value)) (as : List Addr) (os : List Sp) (cl : List (Str × Addr)) (ns' : List Str) (elt target : Expr) (ifs : List Expr) (scope : Scope) (vf : Addr→List (Option Value)) (Q : Value→Heap→Prop) (itv : Value) (h : Heap) : Prop
 | mk (g₁ : Bas) (it : Addr) (n : Nat) (sp : Nat→Sp) (I : Nat→Value→Prop) (D : Heap→Prop) (P : Nat→Heap→List Value→Prop) (st : g.hp.StaysIn g₁.hp) (fo : g₁.fo=g.fo) (ei : itv=.ref it) (wk : Wk c A it n sp I D) (hD : D g₁.hp) (H : Led c env g₁ ns vs (as ++ [it]) (os ++ [sp 0]) h)
  (hn : n < 100000) (hlen : ∀ i g' l,P i g' l→l.length≤i) (h0 : ∀ g',g₁.hp.StaysIn g'→P 0 g' [])
  (turn : ∀ i (g' : Bas) vs' l v h E acc,
   let QX : Value→Heap→Prop:=fun x h₃=>Ex2 fun g'' vs''=>An5 (g'.hp.StaysIn g''.hp) (g''.fo=g'.fo) (vs''.length=ns'.length) (Led c (Y1 scope cl E env) g'' ns' vs'' (as ++ [it] ++ [acc]) (os ++ [sp (i + 1)] ++ [.li l]) h₃) (P (i + 1) g''.hp (l ++ [x]))
   let QT : Bool→Heap→Prop:=fun ok h₂=>if ok=true then W c A (eval elt (Y1 scope cl E env)) QX noX h₂
    else Ex2 fun g'' vs''=>An5 (g'.hp.StaysIn g''.hp) (g''.fo=g'.fo) (vs''.length=ns'.length) (Led c (Y1 scope cl E env) g'' ns' vs'' (as ++ [it] ++ [acc]) (os ++ [sp (i + 1)] ++ [.li l]) h₂) (P (i + 1) g''.hp l)
   i < n→P i g'.hp l→g₁.hp.StaysIn g'.hp→g'.fs=env.locals :: g.fs→I i v→vs'.length=ns'.length→Led c (Y1 scope cl E env) g' ns' vs' (as ++ [it] ++ [acc]) (os ++ [sp (i + 1)] ++ [.li l]) h →
   W c A (assign target (Y1 scope cl E env) v) (fun o_ h₁=>Tests c A (Y1 scope cl E env) ifs QT noX h₁) noX h)
  (fin : ∀ (g' : Bas) l h' acc,P n g'.hp l→g₁.hp.StaysIn g'.hp→g'.fo=g.fo→Led c env g' ns (vf acc) (as ++ [acc]) (os ++ [.li l]) h'→Q (.ref acc) h') : LcG c A env g ns vs as os cl ns' elt target ifs scope vf Q itv h
theorem V9 {α : Type}{l : List α}{a b d : α}{n : Nat}(hn : n=l.length) : (l ++ [a] ++ [d]).set n b=l ++ [b] ++ [d]:=by subst hn;simp
theorem Vg {α : Type}{l : List α}{a b d : α}{n : Nat}(hn : n=l.length) : (l ++ [a] ++ [d]).set (n + 1) b=l ++ [a] ++ [b]:=by subst hn;simp
theorem Yh {α : Type}{l : List α}{a d : α}{n : Nat}(hn : n=l.length) : (l ++ [a] ++ [d])[n]?=some a:=by subst hn;simp
theorem Yy {α : Type}{l : List α}{a d : α}{n : Nat}(hn : n=l.length) : (l ++ [a] ++ [d])[n + 1]?=some d:=by subst hn;simp
theorem Jp {α : Type}{l : List α}{a d : α}{n : Nat}(hn : n=l.length) : (l ++ [a] ++ [d]).eraseIdx n=l ++ [d]:=by
 subst hn;rw[List.append_assoc,List.eraseIdx_append_of_length_le (Nat.le_refl _)];simp
theorem lc_core {scope : Scope}{cl : List (Str × Addr)}{ns' : List Str}{e : Expr}{it acc E : Addr}{sp : Sp}{P : Heap→List Value→Prop}{h' : Heap}(H3 : Led c env g ns vs (as ++ [it] ++ [acc]) (os ++ [sp] ++ [.li []]) h)
 (cd : ∀ (gE : Bas),g.hp.StaysIn gE.hp→gE.fo=(env.locals,Ja ns vs) :: g.fo→Led c (Y1 scope cl E env) gE ns' (ns'.map fun o_=>none) (as ++ [it] ++ [acc]) (os ++ [sp] ++ [.li []]) h' →
  CD c A (.compStart e 0 (.ref it) (.ref acc) (Y1 scope cl E env)) (LcR c (Y1 scope cl E env) gE ns' as acc os P) h')
 (H' : Led c (Y1 scope cl E env) (subB g h env ns vs (as ++ [it] ++ [acc])) ns' (ns'.map fun o_=>none) (as ++ [it] ++ [acc]) (os ++ [sp] ++ [.li []]) h') :
 CD c A (.compStart e 0 (.ref it) (.ref acc) (Y1 scope cl E env)) (LcZ c env g ns vs as acc os P E) h':=by
 have st3:=H3.stay
 refine U1 (cd _ st3 rfl H') fun r h4 q=>?_
 obtain⟨f,er,g',vs',l,k1,k2,H4,hP⟩:=q
 have k2 : g'.fo=(env.locals,Ja ns vs) :: g.fo:=k2
 have efs : g'.fs=env.locals :: g.fs:=by unfold Bas.fs;rw[k2];rfl
 have nd : (E :: g'.fs).Nodup:=H4.fd
 rw[efs] at nd
 have nd:=(List.nodup_cons.mp nd).1
 exact⟨f,er,_,H4.fr.ns,⟨g'.hp,g.fo⟩,l,(H3.leave H4 k1 k2).1,fun e=>nd (e ▸ .head _),fun q=>nd (.tail _ q),H4.lg,H4.nl,hP,Zc st3 k1,rfl⟩
theorem Sh {elt target iter : Expr}{ifs : List Expr}{gs : List Comprehension}{scope : Scope}{cl : List (Str × Addr)}{pos : Pos}{ns' : List Str}{Q : Value→Heap→Prop}(H : Led c env g ns vs as os h) (L : LcK scope cl env ns')
 (x : W c A (eval iter env) (fun v h₁=>W c A (pyIter v) (LcC c A env g ns vs as os cl ns' (.ListComp elt (⟨target,iter,ifs,0⟩ :: gs) scope pos) scope (fun o_=>vs) Q) X h₁) X h)
 (hs : autoParam (∀ x,foldedSetIterable iter env x=pure x) zI) : W c A (eval (.ListComp elt (⟨target,iter,ifs,0⟩ :: gs) scope pos) env) Q X h:=fun kk=>by
 rw[eval_ListComp]
 refine wpAny_comprehension_free (use:=none) rfl hs L.clos L.knd L.names (wpAny_mono (x kk) (fun v s1 q=>?_) fun o_ o_ q=>q)
 refine wpAny_mono (Zy q.2 q.1) (fun itv s2 q2=>?_) fun o_ o_ q=>q
 obtain⟨o2,g₁,it,sp,P,st1,fo1,rfl,H2,cd,fin⟩:=q2
 rw[o2.eq]
 refine wpAny_newList (s:=stt c s2.heap s2.toks) ?_
 have H3:=H2.alloc (o:={ cls:=.type "list",data:=.seq [].toArray }) (sp:=.li []) rfl ⟨0,rfl⟩
 refine wpAny_mono (w_compEnv (X:=X) (cl:=cl) H3 L.cell L.knd (L.eo H.eo) (Q:=fun cenv=>CD c A (.compStart _ 0 (.ref it) (.ref s2.heap.objs.size) { cenv with scope:=relabel scope env }) (LcZ c env g₁ ns vs as s2.heap.objs.size os P cenv.locals))
  (fun E' h' H' kp=>lc_core H3 (fun gE=>cd _ E' gE h') H') s2.toks) (fun cenv s3 q3=>?_) fun o_ o_ q=>q
 rw[q3.1.eq]
 refine codeAny_mono (q3.2 _) fun r s4 z=>?_
 obtain⟨o4,f,rfl,m,hm,g',l,H4,b1,b2,b3,b4,hP,k1,k2⟩:=z
 exact⟨m,hm,fun h5 hs5=>⟨⟨o4.1,o4.2.1,o4.2.2⟩,fin g' l h5 _ hP k1 k2 (H4.other hs5 b1 b2 b3 b4)⟩⟩
theorem w_lcT {elt target iter : Expr}{ifs : List Expr}{gs : List Comprehension}{scope : Scope}{cl : List (Str × Addr)}{pos py spos : Pos}{y : Str}{ns' : List Str}{rest : List Stmt}{v0 : Option Value}{Q : Flow→Heap→Prop}(iy : Nat) (hny : ns[iy]?=some y) (hvy : vs[iy]?=some v0) (H : Led c env g ns vs as os h) (L : LcK scope cl env ns')
 (x : W c A (eval iter env) (fun v h₁=>W c A (pyIter v) (LcC c A env g ns vs as os cl ns' (.ListComp elt (⟨target,iter,ifs,0⟩ :: gs) scope pos) scope (fun acc=>vs.set iy (some (.ref acc))) (fun o_ h'=>W c A (execs rest env) Q X h')) X h₁) X h)
 (hsw : swapsWith (.ListComp elt (⟨target,iter,ifs,0⟩ :: gs) scope pos) (some (.Name y py)) spos.line env=pure true)
 (hs : autoParam (∀ x,foldedSetIterable iter env x=pure x) zI) : W c A (execs (.Assign [.Name y py] (.ListComp elt (⟨target,iter,ifs,0⟩ :: gs) scope pos) spos :: rest) env) Q X h:=Yz fun kk=>by
 rw[exec_Assign_Name_used _ _ _ _ hsw]
 refine wpAny_bind (wpAny_standAt (wpAny_bind ?_))
 show wpAny _ A (do let _ ← comprehension (.ListComp elt (⟨target,iter,ifs,0⟩ :: gs) scope pos) scope env _ (newList []) false (eval iter env) (some (assign (.Name y py) env))) _ _ _
 refine wpAny_bind (wpAny_mono (wpAny_comprehension_free (use:=some (assign (.Name y py) env)) (Q:=fun o_ s'=>Okk c s'∧W c A (execs rest env) Q X s'.heap) rfl hs L.clos L.knd L.names (wpAny_mono (x kk) (fun v s1 q=>?_) fun o_ o_ q=>q)) (fun o_ s' hq=>wpAny_pure (wpAny_pure hq)) fun o_ o_ e=>e)
 refine wpAny_mono (Zy q.2 q.1) (fun itv s2 q2=>?_) fun o_ o_ q=>q
 obtain⟨o2,g₁,it,sp,P,st1,fo1,rfl,H2,cd,fin⟩:=q2
 rw[o2.eq]
 refine wpAny_newList (s:=stt c s2.heap s2.toks) ?_
 have H3:=H2.alloc (o:={ cls:=.type "list",data:=.seq [].toArray }) (sp:=.li []) rfl ⟨0,rfl⟩
 refine wpAny_mono (w_compEnv (X:=X) (cl:=cl) H3 L.cell L.knd (L.eo H.eo) (Q:=fun cenv=>CD c A (.compStart _ 0 (.ref it) (.ref s2.heap.objs.size) { cenv with scope:=relabel scope env }) (LcZ c env g₁ ns vs as s2.heap.objs.size os P cenv.locals))
  (fun E' h' H' kp=>lc_core H3 (fun gE=>cd _ E' gE h') H') s2.toks) (fun cenv s3 q3=>?_) fun o_ o_ q=>q
 rw[q3.1.eq]
 refine codeAny_mono (q3.2 _) fun r s4 z=>?_
 obtain⟨o4,f,rfl,m,hm,g',l,H4,b1,b2,b3,b4,hP,k1,k2⟩:=z
 show wpAny (mdl c) A (assign (.Name y py) env (.ref s2.heap.objs.size)) _ _ _
 rw[o4.eq]
 refine wpAny_assign_Name (wpAny_storeName_local (s:=stt c s4.heap s4.toks) (H4.eo.kinds y (Nd hny)) H4.fr.ns (fun h5 hn5 hs5=>?_) (by rw[H4.eo.knd];rfl))
 exact⟨m,hm.sameBut hs5 (Ne.symm b1),fun h6 hs6=>⟨⟨rfl,rfl,rfl⟩,fin g' l h6 _ hP k1 k2 ((H4.store hny (Nf hvy).1 hn5 hs5).other hs6 b1 b2 b3 b4)⟩⟩
theorem LcC.of {elt target iter : Expr}{ifs : List Expr}{scope : Scope}{cl : List (Str × Addr)}{pos : Pos}{ns' : List Str}{vf : Addr→List (Option Value)}{Q : Value→Heap→Prop}{itv : Value}(q : LcG c A env g ns vs as os cl ns' elt target ifs scope vf Q itv h) (ht : ∀ it v,letOwnedTupleGo target (.ref it) v=pure ():=by intro _ _;rfl) :
 LcC c A env g ns vs as os cl ns' (.ListComp elt [⟨target,iter,ifs,0⟩] scope pos) scope vf Q itv h:=by
 obtain⟨g₁,it,n,sp,I,D,P,st1,fo1,rfl,wk,hD,H2,hn,hlen,h0,turn,fin⟩:=q
 have hl1:=H2.len1
 refine⟨g₁,it,sp 0,P n,st1,fo1,rfl,H2,fun acc E' gE h' st3 ef H'=>?_,fun g' l h' acc hP k1 k2 H'=>fin g' l h' acc hP k1 (k2.trans fo1) H'⟩
 refine U1 (cd_lc (J:=fun i g' vs' as' os' l=>An7 (gE.hp.StaysIn g'.hp) (g'.fo=gE.fo) (vs'.length=ns'.length) (as'=as ++ [it] ++ [acc]) (os'=os ++ [sp i] ++ [.li l]) (P i g'.hp l) (i≤n))
  wk as.length (as.length + 1) (l0:=[]) ⟨Zt _,rfl,by simp,rfl,rfl,h0 _ st3,Nat.zero_le _⟩ H' ?_ ?_ (fun h=>Ex3 fun (g' : Bas) vs' l=>An4 (gE.hp.StaysIn g'.hp) (g'.fo=gE.fo) (Led c (Y1 scope cl E' env) g' ns' vs' (as ++ [acc]) (os ++ [.li l]) h) (P n g'.hp l)) ?_ (ht it)) ?_
 ·rintro i g' vs' o_ o_ l ⟨k1,k2,k3,rfl,rfl,k6,k7⟩
  exact⟨wk.mono _ _ (Zc st3 k1) hD,Yh rfl,Yh hl1,Yy rfl,Yy hl1,Nat.succ_ne_self _,S5 (S7 (hlen _ _ _ k6) k7) hn⟩
 ·rintro i g' vs' o_ o_ l v h'' hi ⟨k1,k2,k3,rfl,rfl,k6,k7⟩ hI H''
  rw[V9 hl1] at H''
  have efs : g'.fs=env.locals :: g.fs:=by unfold Bas.fs;rw[k2,ef,fo1];rfl
  refine Zh (turn i g' vs' l v h'' E' _ hi k6 (Zc st3 k1) efs hI k3 H'') (fun o_ h₁ z=>Zh z (fun ok h₂ z=>?_) fun o_ o_ z=>z) fun o_ o_ z=>z
  cases ok with
  | false =>
   obtain⟨g'',vs'',e1,e2,e3,e4,e5⟩:=z
   exact⟨g'',vs'',_,_,e4,Zc k1 e1,e2.trans k2,e3,rfl,rfl,e5,hi⟩
  | true =>
   refine ifT rfl (Zh (ifTr rfl z) (fun y h₃ z=>?_) fun o_ o_ z=>z)
   obtain⟨g'',vs'',e1,e2,e3,e4,e5⟩:=z
   exact⟨g'',vs'',_,_,Yy rfl,Yy hl1,e4,Zc k1 e1,e2.trans k2,e3,rfl,by rw[Vg hl1],e5,hi⟩
 ·rintro g' vs' o_ o_ l h4 ⟨k1,k2,k3,rfl,rfl,k6,k7⟩ H4
  rw[Jp rfl,Jp hl1] at H4
  exact⟨g',vs',l,k1,k2,H4,k6⟩
 ·rintro r h4 ⟨⟨f,er⟩,g',vs',l,k1,k2,H4,hP⟩
  exact⟨f,er,g',vs',l,k1,k2,H4,hP⟩
theorem Led.add (H : Led c env g ns vs as os h) {a : Addr}{sp : Sp}(x : At h a sp) (h1 : a ∉ as) (h2 : a≠env.locals) (h3 : a ∉ g.fs) (h4 : g.hp.get? a=none) : Led c env g ns vs (as ++ [a]) (os ++ [sp]) h:=by
 refine⟨H.eo,H.base,H.fr,H.low,H.keep,H.lg,H.fo,H.fd,H.fg,fun b hb q=>?_,by simp[H.len],?_,?_,?_,fun i b o e k=>?_⟩
 ·rcases Nh q with q | q
  ·exact H.fa b hb q
  ·simp at q;exact h3 (q ▸ hb)
 ·rw[List.nodup_append];refine⟨H.nd,by simp,fun b hb d hd=>?_⟩
  simp at hd;subst hd;exact fun e=>h1 (e ▸ hb)
 ·intro q
  rcases Nh q with q | q
  ·exact H.nl q
  ·simp at q;exact h2 q.symm
 ·intro b q
  rcases Nh q with q | q
  ·exact H.new b q
  ·simp at q;exact q ▸ h4
 ·by_cases hi : i < as.length
  ·rw[List.getElem?_append_left hi] at e
   rw[List.getElem?_append_left (by rw[← H.len];exact hi)] at k
   exact H.at_ i b o e k
  ·have hi' : i=as.length:=by
    have:=(Nf e).1
    simp at this;exact Nat.le_antisymm (Nat.le_of_lt_succ this) (Nat.le_of_not_lt hi)
   subst hi'
   simp at e;subst e
   rw[H.len] at k;simp at k;subst k
   exact x
theorem Led.adds (bs : List (Addr × Sp)) {as : List Addr}{os : List Sp}(H : Led c env g ns vs as os h) (hb : ∀ p∈bs,At h p.1 p.2∧p.1 ∉ as∧p.1≠env.locals∧p.1 ∉ g.fs∧g.hp.get? p.1=none) (hp : bs.Pairwise (fun p q=>p.1≠q.1)) :
 Led c env g ns vs (as ++ bs.map (·.1)) (os ++ bs.map (·.2)) h:=by
 induction bs generalizing as os with
 | nil=>simpa using H
 | cons b bs ih =>
  obtain⟨x1,x2,x3,x4,x5⟩:=hb b (.head _)
  have:=ih (H.add x1 x2 x3 x4 x5) (fun p hpm=>by
   obtain⟨y1,y2,y3,y4,y5⟩:=hb p (.tail _ hpm)
   refine⟨y1,fun q=>?_,y3,y4,y5⟩
   rcases Nh q with q | q
   ·exact y2 q
   ·simp at q;exact (List.pairwise_cons.mp hp).1 p hpm q.symm) (List.pairwise_cons.mp hp).2
  rw[List.append_assoc,List.append_assoc] at this
  exact this
theorem Xv {x : Str}{p : Pos}{a : Addr}{v : Value}(hk : env.scope.names.lookup x=some .cell) (hc : env.cells.lookup x=some a) (z : Loc g as os a (.ce (some v))) (hd : (x == ("__debug__" : Str))=false:=by decide) : EV c A env (.Name x p) g ns vs as os (·=v):=fun h H k =>
 wpAny_Name (wpAny_loadName_cell (s:=stt c h k) H.eo.knd hk hc (H.get z) ⟨⟨rfl,rfl,rfl⟩,rfl,rfl⟩) hd
theorem Mo {x : Str}{p : Pos}{a : Addr}{n : Int}{t : Tok}(hk : env.scope.names.lookup x=some .cell) (hc : env.cells.lookup x=some a) (z : Loc g as os a (.ce (some (.int n t)))) (hd : (x == ("__debug__" : Str))=false:=by decide) : EV c A env (.Name x p) g ns vs as os (isI n):=
 (Xv hk hc z hd).mono fun v e=>⟨t,e⟩
theorem Jh {x : Str}{v : Value}{v0 : Option Value}{Q : Unit→Heap→Prop}{a : Addr}(j : Nat) (hk : env.scope.names.lookup x=some .cell) (hc : env.cells.lookup x=some a) (ha : as[j]?=some a) (ho : os[j]?=some (.ce v0)) (H : Led c env g ns vs as os h)
 (k : ∀ h',Led c env g ns vs as (os.set j (.ce (some v))) h'→Q () h') : W c A (storeName env x v) Q X h:=fun kk =>
 wpAny_storeName_cell (s:=stt c h kk) H.eo.knd hk hc (H.at_ j a _ ha ho) fun h' h1 h2=>⟨⟨rfl,rfl,rfl⟩,k h' (H.upd ha ho h2 h1)⟩
theorem T5 {x : Str}{p : Pos}{v : Value}{v0 : Option Value}{Q : Unit→Heap→Prop}{a : Addr}(j : Nat) (hk : env.scope.names.lookup x=some .cell) (hc : env.cells.lookup x=some a) (ha : as[j]?=some a) (ho : os[j]?=some (.ce v0)) (H : Led c env g ns vs as os h)
 (k : ∀ h',Led c env g ns vs as (os.set j (.ce (some v))) h'→Q () h') : W c A (assign (.Name x p) env v) Q X h:=fun kk=>by
 rw[show assign (.Name x p) env v=(do standAt p;bindName env x v) from rfl]
 exact wpAny_bind (wpAny_standAt (wpAny_bindName (Jh j hk hc ha ho H k kk)))
structure FnC (f : Addr) (fd : FuncData) (body : List Stmt) (ns : List Str) (cf : Addr→List (Str × Addr)) : Prop where
 obj : ∀ P,(K P).lookup f=some ⟨.type "function",none,.func fd,#[]⟩
 code : ∀ P,codeIn (K P) fd.code fd.qualname=true
 body : fd.body=.stmts body
 knd : fd.scope.kind=.function
 kinds : ∀ x∈ns,fd.scope.names.lookup x=some .local
 nd : ns.Nodup
 dbg : Str.ofString "__debug__" ∉ ns
 glob : fd.globals=mainGlobals
 bi : fd.builtins=builtinsNs
 co : fd.scope.isCoroutine=false
 gen : fd.scope.isGenerator=false
 clo : fd.closure=[]
 cfe : ∀ L : Nat,cellsFrom (L + 1) fd.scope.names []=cf L
 cfn : ∀ L : Nat,(cf L).Pairwise fun p q=>p.1≠q.1
theorem FnC.eo {f : Addr}{fd : FuncData}{body : List Stmt}{ns : List Str}{cf : Addr→List (Str × Addr)}(F : FnC f fd body ns cf) (L : Addr) : EO (callEnvC fd L f) ns:=⟨F.knd,F.kinds,F.nd,F.dbg,F.glob,F.bi⟩
theorem Tg {l : List (Str × Addr)}(h : l.Pairwise fun p q=>p.1≠q.1) {p : Str × Addr}(hp : p∈l) : l.lookup p.1=some p.2:=by
 induction l with
 | nil=>cases hp
 | cons x l ih =>
  rw[List.lookup_cons]
  rcases List.mem_cons.mp hp with e | hp
  ·rw[e,BEq.rfl]
  ·rw[beq_eq_false_iff_ne.mpr ((List.pairwise_cons.mp h).1 p hp).symm]
   exact ih (List.pairwise_cons.mp h).2 hp
theorem w_fnC {f : Addr}{fd : FuncData}{body : List Stmt}{ns' : List Str}{cf : Addr→List (Str × Addr)}{xs : List Value}{binds : List (Str × Value)}{vs' : List (Option Value)}{sps : List Sp}{ca : Addr→List Addr}{Q : Value→Heap→Prop}(H : Led c env g ns vs as os h) (FA : FR A (env.locals :: g.fs)) (F : FnC f fd body ns' cf) (hroom : A.depth < recursionLimit)
 (hb : bindArgs fd ⟨xs,[]⟩=pure binds) (hkind : ∀ L : Nat,∀ x∈binds,fd.scope.names.lookup x.1=some .local∨(fd.scope.names.lookup x.1=some .cell∧((cellsFrom (L + 1) fd.scope.names []).lookup x.1).isSome=true))
 (hL : bindL (fun x=>fd.scope.names.lookup x) binds (fun o_=>none)=Ja ns' vs') (hC : ∀ L : Nat,((cf L).map fun p=>Sp.ce (bindC (fun x=>fd.scope.names.lookup x) binds (fun o_=>none) p.1))=sps) (hca : ∀ L : Nat,(cf L).map (·.2)=ca L)
 (k : ∀ L h₁,FO (A.deeper (callEnvC fd L f)) (callEnvC fd L f) (subB g h env ns vs as).fs→(callEnvC fd L f).cells=cf L→Led c (callEnvC fd L f) (subB g h env ns vs as) ns' vs' (as ++ ca L) (os ++ sps) h₁ →
  W c (A.deeper (callEnvC fd L f)) (execs body (callEnvC fd L f)) (fun fl h₂=>Q (Js fl) h₂) noX h₁) : W c A (call (.ref f) xs) Q X h:=Xy fun kk=>by
 refine codeAny_call_cells (s:=stt c h kk) (fd:=fd) (body:=body) (binds:=binds) hroom (H.kin _ _ (F.obj _)) rfl (H.bs.lim) (codeRec_of H.kin (F.code _)) F.body hb F.clo (hkind _) (fun s1 hi=>?_) F.co F.gen F.knd
 have e1 : (callEnvC fd h.objs.size f).cells=cf h.objs.size:=F.cfe _
 obtain⟨⟨same,hn,hk,fresh⟩,hcell,hap,hab⟩:=hi
 have okk : Okk c s1:=by obtain⟨hh,tk,rfl⟩:=same;exact⟨rfl,rfl,rfl⟩
 have e2 : (stt c h kk).heap=h:=rfl
 rw[e2] at hcell hn hab hap
 have L1:=H.enter (env':=callEnvC fd h.objs.size f) (vs':=vs') (F.eo h.objs.size) rfl (by rw[← hL];exact hn) hk
 rw[e1] at hcell hap hab
 have L2:=Led.adds ((cf h.objs.size).map fun p=>(p.2,Sp.ce (bindC (fun x=>fd.scope.names.lookup x) binds (fun o_=>none) p.1))) L1 (fun q hq=>?_) ?_
 ·simp only[List.map_map] at L2
  rw[show (cf h.objs.size).map ((fun x=>x.1) ∘ fun p=>(p.2,Sp.ce (bindC (fun x=>fd.scope.names.lookup x) binds (fun o_=>none) p.1)))=ca h.objs.size from hca _,
   show (cf h.objs.size).map ((fun x=>x.2) ∘ fun p=>(p.2,Sp.ce (bindC (fun x=>fd.scope.names.lookup x) binds (fun o_=>none) p.1)))=sps from hC _] at L2
  refine wpAny_mono (Zy (k _ _ (FA.deep (env':=callEnvC fd h.objs.size f) F.knd rfl) e1 L2) okk) (fun fl s' q=>?_) fun o_ o_ q=>q.2.elim
  cases fl <;> exact q
 ·obtain⟨p,hp,rfl⟩:=Ng hq
  have hlt : h.objs.size < p.2:=hab p.1 p.2 hp
  have big : ∀ {a : Addr}{o : Obj},h.get? a=some o→a≠p.2:=fun e q=>by
   have:=Heap.lt_size e
   rw[q] at this;exact absurd (S8 this hlt) (Nat.lt_irrefl _)
  refine⟨?_,fun q=>?_,?_,fun q=>?_,?_⟩
  ·have:=hcell p.1 p.2 (Tg (F.cfn _) hp)
   exact this
  ·exact absurd (S8 (H.lt q) hlt) (Nat.lt_irrefl _)
  ·show p.2≠h.objs.size;exact Nat.ne_of_gt hlt
  ·rw[subB_fs] at q
   rcases List.mem_cons.mp q with q | q
   ·have h0:=H.fr.ns.lt;rw[← q] at h0;exact absurd (S8 h0 hlt) (Nat.lt_irrefl _)
   ·exact absurd (S8 (H.ltf q) hlt) (Nat.lt_irrefl _)
  ·cases q : (subB g h env ns vs as).hp.get? p.2 with
   | none=>rfl
   | some o=>exact absurd rfl (big (of_hideAll _ q))
 ·exact List.pairwise_map.mpr (hap.imp fun hh=>hh)
theorem Sb {l : Expr}{p : Pos}{i : Int}(x : EV c A env l g ns vs as os (isI i)) : EV c A env (.UnaryOp .USub l p) g ns vs as os (isI (-i)):=fun h H k =>
 wpAny_UnaryOp (wpAny_mono (x h H k) (fun v s1 q=>by
  obtain⟨q1,q2,t,q3⟩:=q
  subst q3
  rw[q1.eq,q2]
  exact PyProof.Rows.neg_int ⟨⟨rfl,rfl,rfl⟩,rfl,_,rfl⟩) fun o_ o_ q=>q)
theorem V7 {l r : Expr}{p : Pos}{i j : Int}(x : EV c A env l g ns vs as os (isI i)) (y : EV c A env r g ns vs as os (isI j)) (hj : j≠0) (hs : j.natAbs < 1073741824) : EV c A env (.BinOp l .FloorDiv r p) g ns vs as os (isI (i.fdiv j)):=
 U6 x y fun h H a b ha hb k=>by obtain⟨t,rfl⟩:=ha;obtain⟨u,rfl⟩:=hb;exact floordiv_int hj ⟨⟨rfl,rfl,rfl⟩,rfl,_,rfl⟩ (.inl (PyProof.noPylong_small hs))
theorem Te {l r : Expr}{p : Pos}{i j : Int}(x : EV c A env l g ns vs as os (isI i)) (y : EV c A env r g ns vs as os (isI j)) (hj : j≠0) : EV c A env (.BinOp l .Mod r p) g ns vs as os (isI (i.fmod j)):=
 U6 x y fun h H a b ha hb k=>by obtain⟨t,rfl⟩:=ha;obtain⟨u,rfl⟩:=hb;exact mod_int' hj ⟨⟨rfl,rfl,rfl⟩,rfl,_,rfl⟩
theorem ev_pow {l r : Expr}{p : Pos}{i j : Int}(x : EV c A env l g ns vs as os (isI i)) (y : EV c A env r g ns vs as os (isI j)) (hj : 0≤j) (hj2 : j≤1000000) (hi : i.natAbs < 2 ^ 64) : EV c A env (.BinOp l .Pow r p) g ns vs as os (isI (i ^ j.toNat)):=
 U6 x y fun h H a b ha hb k=>by obtain⟨t,rfl⟩:=ha;obtain⟨u,rfl⟩:=hb;exact pow_int_small hj hj2 hi ⟨⟨rfl,rfl,rfl⟩,rfl,_,rfl⟩
theorem At.isTup {a : Addr}{l : List Value}(x : At h a (.tu l)) : IsTup h a l.toArray:=x
theorem w_sub {l i : Expr}{p : Pos}{Q : Value→Heap→Prop}(x : W c A (eval l env) (fun a h₁=>W c A (eval i env) (fun b h₂=>W c A (subscriptTail l i a b) Q X h₂) X h₁) X h) : W c A (eval (.Subscript l i p) env) Q X h:=fun k =>
 Subscript_ (wpAny_mono (x k) (fun a s1 q=>wpAny_mono (Zy q.2 q.1) (fun b s2 q2=>Zy q2.2 q2.1) fun o_ o_ q=>q) fun o_ o_ q=>q)
theorem w_tailT {l i : Expr}{a : Addr}{xs : List Value}{k : Int}{t : Tok}{v : Value}{Q : Value→Heap→Prop}(z : At h a (.tu xs)) (h0 : 0≤k) (hz : xs.length < 2 ^ 63) (hv : xs[k.toNat]?=some v) (q : Q v h)
 (hs : autoParam (subscripted i false (.ref a) (.int k t)=operate [.ref a,.int k t] (getItem (.ref a) (.int k t))) zU) : W c A (subscriptTail l i (.ref a) (.int k t)) Q X h:=fun kk=>by
 have hk:=(Nf hv).1
 exact tail_any (s:=stt c h kk) z.isTup.typeIs F.slot_tuple_getitem.lookup (getItem_tuple (s:=stt c h kk) (j:=k.toNat) z.isTup (Nb (by decide) h0) (xl hk hz) (seqIndex_of h0 (by simp;exact xk hk)) (by simpa using hv) ⟨⟨rfl,rfl,rfl⟩,q⟩) hs
theorem Mh {l i : Expr}{p : Pos}{a : Addr}{xs : List Value}{k : Int}{v : Value}(x : EV c A env l g ns vs as os (·=.ref a)) (y : EV c A env i g ns vs as os (isI k)) (z : Loc g as os a (.tu xs))
 (h0 : 0≤k) (hz : xs.length < 2 ^ 63) (hv : xs[k.toNat]?=some v)
 (hs : autoParam (∀ t,subscripted i false (.ref a) (.int k t)=operate [.ref a,.int k t] (getItem (.ref a) (.int k t))) zV) : EV c A env (.Subscript l i p) g ns vs as os (·=v):=fun h H =>
 w_sub (x.eq H (y.runI H fun t=>w_tailT (H.get z) h0 hz hv ⟨rfl,rfl⟩ (hs t)))
theorem w_range2 {f : Str}{fp pos : Pos}{e1 e2 : Expr}{a b : Int}{Q : Value→Heap→Prop}(H : Led c env g ns vs as os h) (hf : EV c A env (.Name f fp) g ns vs as os (·=.type "range")) (x1 : EV c A env e1 g ns vs as os (isI a)) (x2 : EV c A env e2 g ns vs as os (isI b))
 (ha : -(2 ^ 62)≤a) (ha' : a < 2 ^ 62) (hb : -(2 ^ 62)≤b) (hb' : b < 2 ^ 62)
 (k : ∀ it h',Led c env g ns vs (as ++ [it]) (os ++ [.itR (a + ((0 : Nat) : Int)) (((b - a).toNat : Int) - ((0 : Nat) : Int)) 1]) h'→Q (.ref it) h')
 (he : autoParam (starEach [e1,e2] env=(false,eval e1 env) :: starEach [e2] env) zR) (he2 : autoParam (starEach [e2] env=(false,eval e2 env) :: starEach [] env) zR) (hplain : autoParam ((backTo pos (starEach [e2] env)).any (·.1)=false) zR) :
 W c A (eval (.Call (.Name f fp) [e1,e2] [] pos) env) (fun v h₁=>W c A (pyIter v) Q X h₁) X h:=by
 refine Xo H hf (Y7 H x1 (fun t=>Y7 H x2 (fun u=>Zd fun kk=>?_) he2) he) he hplain
 refine call_range_2 (s:=stt c h kk) ⟨⟨rfl,rfl,rfl⟩,fun k2=>?_⟩
 refine wpAny_pyIter_range (s:=stt c _ k2) (IsRange.new h a b 1 t u kk) (small_one ha ha' hb hb') ⟨⟨rfl,rfl,rfl⟩,k _ _ ?_⟩
 refine (H.push _).alloc rfl ?_
 show _=_
 rw[rangeSize_one]
 rw[xm a b]
 simp
theorem U7 {f : Str}{fp pos : Pos}{e2 : Expr}{b : Int}{Q : Value→Heap→Prop}(H : Led c env g ns vs as os h) (hf : EV c A env (.Name f fp) g ns vs as os (·=.type "range")) (x2 : EV c A env e2 g ns vs as os (isI b))
 (hb : -(2 ^ 62)≤b) (hb' : b < 2 ^ 62)
 (k : ∀ it h',Led c env g ns vs (as ++ [it]) (os ++ [.itR (0 + ((0 : Nat) : Int)) ((b.toNat : Int) - ((0 : Nat) : Int)) 1]) h'→Q (.ref it) h')
 (he2 : autoParam (starEach [e2] env=(false,eval e2 env) :: starEach [] env) zR) :
 W c A (eval (.Call (.Name f fp) [e2] [] pos) env) (fun v h₁=>W c A (pyIter v) Q X h₁) X h:=by
 refine Xo H hf (Y7 H x2 (fun u=>Zd fun kk=>?_) he2) he2 rfl
 refine call_range_1 (s:=stt c h kk) ⟨⟨rfl,rfl,rfl⟩,fun k2=>?_⟩
 refine wpAny_pyIter_range (s:=stt c _ k2) (IsRange.new h 0 b 1 kk u (kk + 1)) (small_one (by decide) (by decide) hb hb') ⟨⟨rfl,rfl,rfl⟩,k _ _ ?_⟩
 refine (H.push _).alloc rfl ?_
 show _=_
 rw[rangeSize_one]
 rw[xm 0 b,Int.sub_zero b]
 simp
theorem Zz {x : Str}{e : Expr}{p p' : Pos}{rest : List Stmt}{Q : Flow→Heap→Prop}(a : W c A (eval e env) (fun v h'=>W c A (storeName env x v) (fun o_ h''=>W c A (execs rest env) Q X h'') X h') X h)
 (hs : autoParam (swapsWith e (some (.Name x p')) p.line env=pure false) zR) : W c A (execs (.Assign [.Name x p'] e p :: rest) env) Q X h:=Yz fun kk =>
 wpAny_Assign_Name (wpAny_mono (a kk) (fun v s1 q=>Zy q.2 q.1) fun o_ o_ q=>q) hs
theorem Yj {e : Expr}{p : Pos}{rest : List Stmt}{Q : Flow→Heap→Prop}(x : W c A (eval e env) (fun o_ h'=>W c A (execs rest env) Q X h') X h)
 (hi : autoParam (interactive env=false) zR) (hs : autoParam (swapsWith e none p.line env=pure false) zR) : W c A (execs (.Expr e p :: rest) env) Q X h:=Yz fun kk=>wpAny_Expr_any (x kk) hi hs
theorem Zm {e : Expr}{b : Bool}(x : EV c A env e g ns vs as os (·=.bool b)) (he : autoParam (isTrue e env (eval e env)=(do let v ← eval e env;standAt e.pos;holding [v] (truthy v))) zR) : TV c A env e g ns vs as os b:=
 Yk x (fun h H v hv k=>by subst hv;exact wpAny_truthy_bool ⟨⟨rfl,rfl,rfl⟩,rfl,rfl⟩) he
theorem Jv (P : Params) : nsIn (K P) mainGlobals "range"=some none:=by kernel_rfl
theorem Mk (P : Params) : nsIn (K P) mainGlobals "IndexError"=some none:=by kernel_rfl
theorem U2 : bootBuiltins "IndexError"=some (.type "IndexError"):=dk
theorem n_po (P : Params) : nsIn (K P) mainGlobals "heappop"=some (some (.ref 53)):=by kernel_rfl
theorem n_pu (P : Params) : nsIn (K P) mainGlobals "heappush"=some (some (.ref 46)):=by kernel_rfl
theorem k_po : Jc 53:=fun P=>by kernel_rfl
theorem k_pu : Jc 46:=fun P=>by kernel_rfl
theorem heappop_empty {j : Nat}{l : Addr}{Q : Value→Heap→Prop}(hA : Rm A 2) (hh : A.handled=none) (FA : FR A (env.locals :: g.fs)) (H : Led c env g ns vs as os h) (ha : as[j]?=some l) (ho : os[j]?=some (.li [])) :
 W c A (call (.ref 53) [.ref l]) Q (fun e h₂=>∃ ea T,e=.ref ea∧Fly (env.locals :: g.fs) h h₂ ea "IndexError" (some T)) h:=by
 refine Zl ?_
 intro Q'
 refine w_fnX H FA F_po hA.depth (B_po _) rfl dk fun L h₁ hk FO1 H1=>?_
 have hr : W c (A.deeper (callEnv fdPO L 53)) (call (.builtin "list.pop") [.ref l]) (fun o_ o_=>False) (fun e h₂=>∃ ea tb,e=.ref ea∧Fly (L :: (subB g h env ns vs as).fs) h₁ h₂ ea "IndexError" tb) h₁:=fun kk=>by
  obtain⟨n,hn⟩:=(H1.at_ j l _ ha ho).li
  exact call_meets (s:=stt c h₁ kk) F.slot_list_pop ⟨_,hn,rfl⟩ F.entry_list_pop (F.args_list_pop_1 _) (AutoSeq1.list_pop_list_0 l #[] n rfl) ⟨hn,hh,fun h' tk e x=>⟨⟨rfl,rfl,rfl⟩,e,none,rfl,Fly.of_new x⟩⟩
 obtain⟨n,hn⟩:=(H1.at_ j l _ ha ho).li
 exact Zz (Tw H1 (Za 0 rfl rfl) F.plainAttrs_list F.slot_list_pop F.type_list_pop (fun k=>⟨_,hn,rfl⟩) (fun b hb=>by cases hb;exact⟨_,hn,rfl⟩) (Zh hr (fun o_ o_ q=>q.elim) fun o_ o_ q=>q))
structure SO {α : Type}(lt : α→α→Bool) : Prop where
 asym : ∀ a b,lt a b=true→lt b a=false
 ntr : ∀ a b c,lt b a=false→lt c b=false→lt c a=false
section
variable {α : Type} {lt : α → α → Bool}
noncomputable def le (lt : α→α→Bool) (a b : α) : Prop:=lt b a=false
theorem SO.refl (S : SO lt) (a : α) : le lt a a:=by
 cases h : lt a a with
 | false=>exact h
 | true=>exact S.asym _ _ h
theorem SO.trans (S : SO lt) {a b c : α}(h : le lt a b) (k : le lt b c) : le lt a c:=S.ntr a b c h k
theorem SO.of_lt (S : SO lt) {a b : α}(h : lt a b=true) : le lt a b:=S.asym _ _ h
noncomputable def Xc (lt : α→α→Bool) (xs : List α) : Prop:=∀ i (hi : i < xs.length) (h0 : 0 < i),le lt (xs[(i - 1) / 2]'(Xu hi)) xs[i]
structure Hole (lt : α→α→Bool) (xs : List α) (pos : Nat) : Prop where
 a : ∀ i (hi : i < xs.length),0 < i→i≠pos→(i - 1) / 2≠pos→le lt (xs[(i - 1) / 2]'(Xu hi)) xs[i]
 c : ∀ i (hi : i < xs.length) (h0 : 0 < i) (hpar : (i - 1) / 2=pos) (hp : 0 < pos),le lt (xs[(pos - 1) / 2]'(Xu (hpar ▸ Xu hi))) xs[i]
theorem gs {xs : List α}{i j : Nat}{v : α}(hj : j < (xs.set i v).length) (hij : i≠j) : (xs.set i v)[j]=xs[j]'(by simpa using hj):=List.getElem_set_ne hij hj
theorem gss {xs : List α}{i : Nat}{v : α}(hi : i < (xs.set i v).length) : (xs.set i v)[i]=v:=List.getElem_set_self hi
theorem sd_heap (S : SO lt) {new : α} : ∀ (pos : Nat) (xs : List α),pos < xs.length→Hole lt xs pos→(∀ i (hi : i < xs.length),0 < i→(i - 1) / 2=pos→le lt new xs[i])→Xc lt (sd lt new 0 xs pos):=by
 intro pos
 induction pos using Nat.strongRecOn with
 | ind pos ih =>
  intro xs hp H hb
  have fin : (∀ h0 : 0 < pos,le lt (xs[(pos - 1) / 2]'(Xu hp)) new)→Xc lt (xs.set pos new):=by
   intro hpar i hi h0
   have hi' : i < xs.length:=by simpa using hi
   by_cases e : i=pos
   ·subst e
    rw[gss,gs _ (Tb h0 rfl).symm]
    exact hpar h0
   ·rw[gs hi (fun q=>e q.symm)]
    by_cases e2 : (i - 1) / 2=pos
    ·have : (xs.set pos new)[(i - 1) / 2]'(Xu hi)=new:=by
      simp[e2]
     rw[this]
     exact hb i hi' h0 e2
    ·rw[gs _ (fun q=>e2 q.symm)]
     exact H.a i hi' h0 e e2
  rw[sd]
  split
  ·rename_i h0
   have hq : (pos - 1) / 2 < xs.length:=Xu hp
   rw[Nc hq]
   simp only
   split
   ·rename_i hlt
    refine ih _ (Y4 h0) _ (by simpa using hq) ⟨?_,?_⟩ ?_
    ·intro i hi h0 h1 h2
     have hi' : i < xs.length:=by simpa using hi
     by_cases e : i=pos
     ·exact absurd (by rw[e]) h2
     ·rw[gs hi (fun q=>e q.symm)]
      by_cases e2 : (i - 1) / 2=pos
      ·have : (xs.set pos xs[(pos - 1) / 2])[(i - 1) / 2]'(Xu hi)=xs[(pos - 1) / 2]:=by simp[e2]
       rw[this]
       exact H.c i hi' h0 e2 (by assumption)
      ·rw[gs _ (fun q=>e2 q.symm)]
       exact H.a i hi' h0 e e2
    ·intro i hi h0 h1 h2
     have hi' : i < xs.length:=by simpa using hi
     have h0' : 0 < pos:=by assumption
     rw[gs _ (Nat.ne_of_gt (S8 (Y4 h2) (Y4 h0')))]
     have hpp:=H.a ((pos - 1) / 2) hq h2 (Tb h0' rfl) (Nat.ne_of_lt (S8 (Y4 h2) (Y4 h0')))
     by_cases e : i=pos
     ·subst e;rw[gss];exact hpp
     ·rw[gs hi (fun q=>e q.symm)]
      have:=H.a i hi' h0 e (h1 ▸ Tb (by assumption) rfl)
      refine S.trans hpp ?_
      simpa [h1] using this
    ·intro i hi h0 h1
     have hi' : i < xs.length:=by simpa using hi
     by_cases e : i=pos
     ·subst e;rw[gss];exact S.of_lt hlt
     ·rw[gs hi (fun q=>e q.symm)]
      have:=H.a i hi' h0 e (h1 ▸ Tb (by assumption) rfl)
      refine S.trans (S.of_lt hlt) ?_
      simpa [h1] using this
   ·rename_i hlt
    exact fin fun o_=>by simpa [le] using hlt
  ·exact fin fun h0=>absurd h0 (by assumption)
theorem swap_perm {xs : List α}{i j : Nat}{v : α}(hi : i < xs.length) (hj : j < xs.length) (hij : i≠j) : ((xs.set i xs[j]).set j v).Perm (xs.set i v):=by
 have h1 : i < (xs.set i v).length:=by simpa using hi
 have h2 : j < (xs.set i v).length:=by simpa using hj
 have:=List.set_set_perm h1 h2
 rw[gss,gs h2 hij,List.set_set] at this
 exact this
theorem sd_perm {new : α} : ∀ (pos : Nat) (xs : List α),pos < xs.length→(sd lt new 0 xs pos).Perm (xs.set pos new):=by
 intro pos
 induction pos using Nat.strongRecOn with
 | ind pos ih =>
  intro xs hp
  rw[sd]
  split
  ·rename_i h0
   have hq : (pos - 1) / 2 < xs.length:=Xu hp
   rw[Nc hq]
   simp only
   split
   ·exact (ih _ (Y4 h0) _ (by simpa using hq)).trans (swap_perm hp hq (Tb h0 rfl).symm)
   ·exact .refl _
  ·exact .refl _
theorem suL_ok (S : SO lt) : ∀ (n pos : Nat) (xs : List α),n=xs.length - pos→pos < xs.length→Hole lt xs pos→Hole lt (suL lt xs pos).1 (suL lt xs pos).2∧(suL lt xs pos).1.length=xs.length∧(suL lt xs pos).2 < xs.length∧¬ 2 * (suL lt xs pos).2 + 1 < xs.length ∧
 ∀ new,((suL lt xs pos).1.set (suL lt xs pos).2 new).Perm (xs.set pos new):=by
 intro n
 induction n using Nat.strongRecOn with
 | ind n ih =>
  intro pos xs hn hp H
  have step : ∀ cp (hcp : cp < xs.length),(cp - 1) / 2=pos→0 < cp→(∀ i (hi : i < xs.length),0 < i→(i - 1) / 2=pos→le lt xs[cp] xs[i]) →
   Hole lt (suL lt (xs.set pos xs[cp]) cp).1 (suL lt (xs.set pos xs[cp]) cp).2∧(suL lt (xs.set pos xs[cp]) cp).1.length=xs.length∧(suL lt (xs.set pos xs[cp]) cp).2 < xs.length∧¬ 2 * (suL lt (xs.set pos xs[cp]) cp).2 + 1 < xs.length ∧
   ∀ new,((suL lt (xs.set pos xs[cp]) cp).1.set (suL lt (xs.set pos xs[cp]) cp).2 new).Perm (xs.set pos new):=by
   intro cp hcp hpar h0 hmin
   have hlt : pos < cp:=hpar ▸ Y4 h0
   have:=ih (xs.length - cp) (hn ▸ par_lt2 hcp hlt) cp (xs.set pos xs[cp]) (by simp) (by simpa using hcp) ⟨?_,?_⟩
   ·obtain⟨k1,k2,k3,k4,k5⟩:=this
    simp only[List.length_set] at k2 k3 k4
    exact⟨k1,k2,k3,k4,fun new=>(k5 new).trans (swap_perm hp hcp (Nat.ne_of_lt hlt))⟩
   ·intro i hi h0' h1 h2
    have hi' : i < xs.length:=by simpa using hi
    by_cases e : i=pos
    ·subst e
     rw[gss,gs _ (Tb h0' rfl).symm]
     exact H.c cp hcp h0 hpar h0'
    ·rw[gs hi (fun q=>e q.symm)]
     by_cases e2 : (i - 1) / 2=pos
     ·have : (xs.set pos xs[cp])[(i - 1) / 2]'(Xu hi)=xs[cp]:=by simp[e2]
      rw[this]
      exact hmin i hi' h0' e2
     ·rw[gs _ (fun q=>e2 q.symm)]
      exact H.a i hi' h0' e e2
   ·intro i hi h0' h1 h2
    have hi' : i < xs.length:=by simpa using hi
    have : (xs.set pos xs[cp])[(cp - 1) / 2]'(by rw[hpar,List.length_set];exact hp)=xs[cp]:=by simp[hpar]
    have hci : cp < i:=h1 ▸ Y4 h0'
    rw[this,gs hi (Nat.ne_of_lt (S8 hlt hci))]
    have:=H.a i hi' h0' (Nat.ne_of_gt (S8 hlt hci)) (h1 ▸ Nat.ne_of_gt hlt)
    simpa [h1] using this
  rw[suL]
  split
  ·rename_i h1
   split
   ·rename_i h2
    split
    ·rename_i hlt
     refine step _ h1 (par_l pos) (Nat.succ_pos _) fun i hi h0 hpar=>?_
     rcases par_or h0 hpar with rfl | rfl
     ·exact S.refl _
     ·exact S.of_lt hlt
    ·rename_i hlt
     refine step _ h2 (par_r pos) (Nat.succ_pos _) fun i hi h0 hpar=>?_
     rcases par_or h0 hpar with rfl | rfl
     ·simpa [le] using hlt
     ·exact S.refl _
   ·rename_i h2
    refine step _ h1 (par_l pos) (Nat.succ_pos _) fun i hi h0 hpar=>?_
    rcases par_or h0 hpar with rfl | rfl
    ·exact S.refl _
    ·exact absurd hi h2
  ·rename_i h1
   exact⟨H,rfl,hp,h1,fun o_=>.refl _⟩
theorem hpush_heap (S : SO lt) {xs : List α}{x : α}(H : Xc lt xs) : Xc lt (hpush lt xs x):=by
 refine sd_heap S _ _ (by simp) ⟨?_,?_⟩ ?_
 ·intro i hi h0 h1 h2
  have hi' : i < xs.length:=by rw[List.length_append] at hi;exact Nat.lt_of_le_of_ne (Nat.le_of_lt_succ hi) h1
  rw[List.getElem_append_left hi',List.getElem_append_left (Xu hi')]
  exact H i hi' h0
 ·intro i hi h0 h1 h2;rw[List.length_append] at hi;exact absurd (h1 ▸ Y4 h0) (Nat.not_lt_of_le (Nat.le_of_lt_succ hi))
 ·intro i hi h0 h1;rw[List.length_append] at hi;exact absurd (h1 ▸ Y4 h0) (Nat.not_lt_of_le (Nat.le_of_lt_succ hi))
theorem hpush_perm {xs : List α}{x : α} : (hpush lt xs x).Perm (x :: xs):=by
 refine (sd_perm _ _ (by simp)).trans ?_
 rw[List.set_append_right _ _ (Nat.le_refl _)]
 simp only[Nat.sub_self,List.set_cons_zero]
 exact List.perm_append_comm
theorem su_heap (S : SO lt) {y z : α}{ys : List α}(H : Xc lt (y :: ys ++ [z])) : Xc lt (su lt (z :: ys) 0 z)∧(su lt (z :: ys) 0 z).Perm (z :: ys):=by
 have hole : Hole lt (z :: ys) 0:=by
  refine⟨fun i hi h0 h1 h2=>?_,fun i hi h0 h1 h2=>absurd h2 (Nat.lt_irrefl _)⟩
  have:=H i (by rw[List.length_append];exact Nat.lt_succ_of_lt hi) h0
  have e : ∀ (k : Nat) (hk : k < (z :: ys).length) (hk' : k < (y :: ys ++ [z]).length),0 < k→(y :: ys ++ [z])[k]=(z :: ys)[k]:=by
   intro k hk hk' h0
   cases k with
   | zero=>exact absurd h0 (Nat.lt_irrefl _)
   | succ k =>
    simp only[List.cons_append,List.getElem_cons_succ]
    exact List.getElem_append_left (by simpa using hk)
  rw[e i hi _ h0,e _ (Xu hi) _ (Nat.pos_of_ne_zero h2)] at this
  exact this
 obtain⟨k1,k2,k3,k4,k5⟩:=suL_ok S _ 0 (z :: ys) rfl (by simp) hole
 unfold su
 constructor
 ·refine sd_heap S _ _ (by rw[List.length_set,k2];exact k3) ⟨?_,?_⟩ ?_
  ·intro i hi h0 h1 h2
   rw[gs _ (fun q=>h1 q.symm),gs _ (fun q=>h2 q.symm)]
   exact k1.a i (by simpa using hi) h0 h1 h2
  ·intro i hi h0 h1 h2;rw[List.length_set,k2] at hi;exact (par_leaf h0 h1 hi k4).elim
  ·intro i hi h0 h1;rw[List.length_set,k2] at hi;exact (par_leaf h0 h1 hi k4).elim
 ·refine (sd_perm _ _ (by rw[List.length_set,k2];exact k3)).trans ?_
  rw[List.set_set]
  exact (k5 z).trans (by simp)
theorem heap_min (S : SO lt) {xs : List α}(H : Xc lt xs) : ∀ (i : Nat) (hi : i < xs.length),le lt (xs[0]'(Nat.zero_lt_of_lt hi)) xs[i]:=by
 intro i
 induction i using Nat.strongRecOn with
 | ind i ih =>
  intro hi
  by_cases h0 : i=0
  ·subst h0;exact S.refl _
  ·have h0:=Nat.pos_of_ne_zero h0;exact S.trans (ih ((i - 1) / 2) (Y4 h0) (Xu hi)) (H i hi h0)
theorem heap_nil : Xc lt ([] : List α):=fun i hi=>absurd hi (by simp)
end
theorem lt2_t {a b c d : Int} : lt2 a b c d=true ↔ a < c∨a=c∧b < d:=by
 unfold lt2;rw[Bool.or_eq_true,Bool.and_eq_true,decide_eq_true_eq,decide_eq_true_eq,beq_iff_eq]
theorem lti_f {a b c d : Int} : ¬(a < c∨a=c∧b < d) ↔ c < a∨c=a∧d≤b:=
 ⟨fun h=>(Int.lt_trichotomy a c).elim (fun q=>absurd (.inl q) h) fun q=>q.elim (fun e=>.inr ⟨e.symm,Int.not_lt.mp fun x=>h (.inr ⟨e,x⟩)⟩) .inl,
 fun h x=>h.elim (fun q=>x.elim (Int.lt_asymm q) fun y=>Int.ne_of_gt q y.1) (fun q=>x.elim (fun y=>Int.ne_of_gt y q.1) fun y=>absurd y.2 (Int.not_lt.mpr q.2))⟩
theorem lt2_f {a b c d : Int} : lt2 a b c d=false ↔ c < a∨c=a∧d≤b:=by
 rw[← Bool.not_eq_true,lt2_t];exact lti_f
theorem lt2_so : SO (fun p q : Int × Int=>lt2 p.1 p.2 q.1 q.2):=by
 refine⟨fun a b h=>lt2_f.mpr ((lt2_t.mp h).imp id fun q=>⟨q.1,Int.le_of_lt q.2⟩),fun a b d h k=>lt2_f.mpr ?_⟩
 rcases lt2_f.mp h with h | ⟨h,h'⟩ <;> rcases lt2_f.mp k with k | ⟨k,k'⟩
 ·exact .inl (Int.lt_trans h k)
 ·exact .inl (k ▸ h)
 ·exact .inl (h ▸ k)
 ·exact .inr ⟨h.trans k,Nb h' k'⟩
theorem vlt_so (g : PySem.Heap) : SO (vlt g):=⟨fun a b h=>lt2_so.asym (key g a) (key g b) h,fun a b d h k=>lt2_so.ntr (key g a) (key g b) (key g d) h k⟩
theorem ap {α : Type}{l : List α}{j : Nat}{a : α}(h : l[j]?=some a) (r : List α) : (l ++ r)[j]?=some a:=by rw[List.getElem?_append_left (Nf h).1];exact h
theorem Z6 {α : Type}{l : List α}{j : Nat}(h : j < l.length) (r : List α) (v : α) : (l ++ r).set j v=l.set j v ++ r:=List.set_append_left _ _ h
theorem set3 {α : Type}{l : List α}{j : Nat}(h : j < l.length) {x y a b : α} : (l.set j x ++ [a] ++ [b]).set j y=l.set j y ++ [a] ++ [b]:=by
 rw[Z6 (by simp;exact Nat.lt_succ_of_lt ‹_›),Z6 (by simpa using h),List.set_set]
theorem Zn {α : Type}{l : List α}{j : Nat}{a : α}(h : l[j]?=some a) : j < l.length:=(Nf h).1
noncomputable abbrev fdEM : FuncData:=Xl (st 34) "_law_emptied" .none (.str "law_dn0072_05" 1378) (.ref 891)
noncomputable abbrev cfEM (L : Addr) : List (PySem.Str × Addr):=[("heap",L + 1)]
theorem F_em : FnC 892 fdEM (fnB (st 34)) ["out"] cfEM:=⟨fun P=>by kernel_rfl,fun P=>by kernel_rfl,rfl,by kernel_rfl,dk,dk,dk,rfl,rfl,by kernel_rfl,by kernel_rfl,rfl,fun L=>by kernel_rfl,fun L=>by simp⟩
theorem B_em (a : Value) : bindArgs fdEM ⟨[a],[]⟩=pure [(("heap" : PySem.Str),a)]:=by kernel_rfl
theorem so_min {α : Type}{lt : α→α→Bool}(S : SO lt) {y : α}{ys : List α}(H : Xc lt (y :: ys)) : ∀ x∈ys,le lt y x:=fun x hx=>by
 obtain⟨i,hi,rfl⟩:=List.getElem_of_mem hx
 exact heap_min S H (i + 1) (by simpa using hi)
theorem Ms {j : Nat}{l : Addr}{xs : List Value}(hA : Rm A 5) (H : Led c env g ns vs as os h) (ha : as[j]?=some l) (ho : os[j]?=some (.li xs)) (hk : ∀ v∈xs,Y2 g.hp v) (hz : xs.length < 900) (hne : xs≠[]) (hp : Xc (vlt g.hp) xs) :
 W c A (call (.ref 53) [.ref l]) (fun r h'=>Ex1 fun xs'=>An4 ((r :: xs').Perm xs) (Xc (vlt g.hp) xs') ((∀ x∈xs',le (vlt g.hp) r x)) (Led c env g ns vs as (os.set j (.li xs')) h')) noX h:=by
 refine Zl ?_
 intro Q'
 obtain⟨ys,z,rfl⟩ : ∃ ys z,xs=ys ++ [z]:=⟨xs.dropLast,xs.getLast hne,(List.dropLast_concat_getLast hne).symm⟩
 refine Zh (heappop_ok hA H ha ho hk (by simp at hz;exact r7 ‹_›)) ?_ fun o_ o_ q=>q
 rintro r h' (⟨rfl,rfl,H'⟩ | ⟨y,ys',rfl,rfl,H'⟩)
 ·exact⟨[],by simp,heap_nil,fun x hx=>(nomatch hx),H'⟩
 ·have S:=vlt_so g.hp
  obtain⟨k1,k2⟩:=su_heap S hp
  refine⟨_,?_,k1,fun x hx=>?_,H'⟩
  ·exact (List.Perm.cons _ k2).trans (by simpa using List.Perm.cons r (List.perm_append_singleton z ys').symm)
  ·exact so_min S hp x (by
    have:=k2.mem_iff.mp hx
    simp at this ⊢
    exact this.symm)
theorem V0 {α : Type}{lt lt' : α→α→Bool}{xs : List α}(h : ∀ x∈xs,∀ y∈xs,lt' x y=lt x y) (H : Xc lt xs) : Xc lt' xs:=fun i hi h0=>by
 unfold le;rw[h _ (List.getElem_mem _) _ (List.getElem_mem _)];exact H i hi h0
theorem X8 {i : Nat}{a : Addr}{l : List Value}{v : Value}{Q : Value→Heap→Prop}(H : Led c env g ns vs as os h) (ha : as[i]?=some a) (ho : os[i]?=some (.li l)) (hz : l.length≤sizeLine) (k : ∀ h',Led c env g ns vs as (os.set i (.li (l ++ [v]))) h'→Q .none h') :
 W c A (call (.builtin "list.append") [.ref a,v]) Q X h:=fun kk=>by
 obtain⟨n,hn⟩:=(H.at_ i a _ ha ho).li
 exact call_meets (s:=stt c h kk) F.slot_list_append ⟨_,hn,rfl⟩ F.entry_list_append (F.args_list_append_2 _ _) (list_append a l.toArray n v (by simpa using hz)) ⟨hn,⟨⟨rfl,rfl,rfl⟩,k _ (H.upd_li ha ho hn (by simp))⟩⟩
theorem c_extend {i : Nat}{a b : Addr}{l m : List Value}{Q : Value→Heap→Prop}(H : Led c env g ns vs as os h) (ha : as[i]?=some a) (ho : os[i]?=some (.li l)) (hb : Loc g as os b (.li m)) (hz : l.length + m.length < 100000) (k : ∀ h',Led c env g ns vs as (os.set i (.li (l ++ m))) h'→Q .none h') :
 W c A (call (.builtin "list.extend") [.ref a,.ref b]) Q X h:=fun kk=>by
 obtain⟨n,hn⟩:=(H.at_ i a _ ha ho).li
 obtain⟨n2,hn2⟩:=(H.get hb).li
 exact call_meets (s:=stt c h kk) F.slot_list_extend ⟨_,hn,rfl⟩ F.entry_list_extend (F.args_list_extend_2 _ _) (AutoSeq1.list_extend_list_list_0 a l.toArray n b m.toArray n2 (by
  simp only[Builtin.List.listTooLong,sizeLine_eq];simp;exact fun _=>S7 (Na hz) (by decide)) (by simp;rw[sizeLine_eq];exact S7 (Na (ye hz)) (by decide)) (by simp;rw[sizeLine_eq];exact q3 ‹_› (by decide))) ⟨hn,hn2,⟨⟨rfl,rfl,rfl⟩,k _ (H.upd_li ha ho hn (by simp))⟩⟩
theorem Led.hd {i : Nat}{a : Addr}{l : List Value}(H : Led c env g ns vs as os h) (ha : as[i]?=some a) (ho : os[i]?=some (.li l)) : (∀ k,(stt c h k).TypeIs (.ref a) "list")∧(∀ b,(Value.ref a)=.ref b→∃ ob,h.get? b=some ob∧ob.dict=none):=by
 obtain⟨n,hn⟩:=(H.at_ i a _ ha ho).li
 exact⟨fun k=>⟨_,hn,rfl⟩,fun b hb=>by cases hb;exact⟨_,hn,rfl⟩⟩
theorem V3 {j : Nat}{l : Addr}{xs : List Value}(hA : Rm A 8) (hh : A.handled=none) (FA : FR A (env.locals :: g.fs)) (H : Led c env g ns vs as os h) (ha : as[j]?=some l) (ho : os[j]?=some (.li xs)) (hk : ∀ v∈xs,Y2 g.hp v) (hz : xs.length < 800) (hp : Xc (vlt g.hp) xs) :
 W c A (call (.ref 892) [.ref l]) (fun v h'=>Ex3 fun (ps us : List Value) (a : Addr)=>An5 (v=.ref a) (ps.Perm xs) (ps.Pairwise (le (vlt g.hp))) (Paired (fun p u=>isI (key g.hp p).2 u) ps us) (Led c env g ns vs (as ++ [a]) (os.set j (.li []) ++ [.li us]) h')) noX h:=by
 refine Zl ?_
 intro Q'
 refine w_fnC (vs':=[none]) (sps:=[.ce (some (.ref l))]) (ca:=fun L=>[L + 1]) H FA F_em hA.depth (B_em _) (fun L x hx=>?_) ?_ (fun L=>?_) (fun L=>rfl) fun L h₁ FO1 ec H1=>?_
 ·simp at hx;subst hx;exact .inr ⟨by kernel_rfl,by kernel_rfl⟩
 ·funext y
  exact (show bindL (fun x=>fdEM.scope.names.lookup x) [((Str.ofString "heap"),Value.ref l)] (fun o_=>none) y=none by kernel_rfl).trans (Vk ["out"] y).symm
 ·kernel_rfl
 have hA':=hA.deep (callEnvC fdEM L 892)
 have st:=H.stay
 have jl:=Zn ho
 have S:=vlt_so g.hp
 have ht:=FO1.toFR
 refine (?_ : SB c _ _ _ _ _ _ _ _ _ _) h₁ H1
 clear H1 h₁
 refine sb_setX (R:=fun v h'=>∃ o,v=.ref o∧Led c (callEnvC fdEM L 892) (subB g h env ns vs as) ["out"] [none] (as ++ [L + 1] ++ [o]) (os ++ [.ce (some (.ref l))] ++ [.li []]) h') (fun h₁ H1=>Je (Zd ⟨by rw[sizeLine_eq];simp,_,rfl,H1.newL []⟩)) ?_
 rintro o_ h₁ ⟨o,rfl,H1⟩
 refine Zp (v0:=none) 0 rfl rfl H1 fun h₂ H2=>?_
 refine (?_ : SB c _ _ _ _ _ _ _ _ _ _) h₂ H2
 clear H2 h₂ H1 h₁
 refine Sq (fun n h'=>Ex3 fun (xs' ps us : List Value)=>An7 (n=xs'.length) (Led c (callEnvC fdEM L 892) (subB g h env ns vs as) ["out"] [some (.ref o)] (as ++ [L + 1] ++ [o]) (os.set j (.li xs') ++ [.ce (some (.ref l))] ++ [.li us]) h') (Xc (vlt g.hp) xs') ((ps ++ xs').Perm xs) (ps.Pairwise (le (vlt g.hp))) ((∀ p∈ps,∀ x∈xs',le (vlt g.hp) p x)) (Paired (fun p u=>isI (key g.hp p).2 u) ps us)) xs.length
  (fun h' H'=>⟨xs,[],[],rfl,by rw[Xh ho];exact H',hp,by simp,.nil,fun p hp=>(nomatch hp),.nil⟩) ?_
 rintro I' o_ QL h' ⟨xs',ps,us,rfl,H',i1,i2,i3,i4,i5⟩
 refine Xs (Zm V4) H' ?_
 refine ifT rfl ?_
 have kx : ∀ v∈xs',Y2 g.hp v:=fun v hv=>hk v (i2.mem_iff.mp (List.mem_append_right _ hv))
 have haj : (as ++ [L + 1] ++ [o])[j]?=some l:=ap (ap ha _) _
 have hlen : (ps ++ xs').length=xs.length:=i2.length_eq
 have hul : us.length=ps.length:=i5.length.symm
 simp only[List.length_append] at hlen
 refine (?_ : SB c _ _ _ _ _ _ _ _ _ _) h' H'
 clear H' h'
 have hou : (as ++ [L + 1] ++ [o])[as.length + 1]?=some o:=Yy rfl
 have hos : ∀ (xs'' : List Value),(os.set j (.li xs'') ++ [.ce (some (.ref l))] ++ [.li us])[as.length + 1]?=some (.li us):=fun xs''=>Yy (by simp[H.len])
 have hoj : ∀ (xs'' us' : List Value),(os.set j (.li xs'') ++ [.ce (some (.ref l))] ++ [.li us'])[j]?=some (.li xs''):=fun xs'' us'=>ap (ap (List.getElem?_set_self jl) _) _
 cases xs' with
 | nil =>
  refine sb_try (cls:="IndexError") (T:="IndexError") (vs':=[some (.ref o)]) (as':=as ++ [L + 1] ++ [o]) (os':=os.set j (.li []) ++ [.ce (some (.ref l))] ++ [.li us]) FO1 (fun B h' H'=>(show EV c B (callEnvC fdEM L 892) _ _ _ _ _ _ _ from Zr (by rfl) Mk U2) h' H') (by kernel_rfl) (by kernel_rfl) (by kernel_rfl) ?_ ?_
  ·intro h' H'
   have hd:=H'.hd hou (hos [])
   refine Yj (Xa H' (Za 0 rfl rfl) F.plainAttrs_list F.slot_list_append F.type_list_append hd.1 hd.2 (Zi (w_sub (Yl H' (Xm (by rfl) n_po) k_po (Zq H' (Xv (by rfl) (by rfl) (.ld as.length (Yh rfl) (Yh (by simp[H.len])))) (Zd ⟨H'.kin,?_⟩))))))
   refine Zh (heappop_empty (Q:=fun o_ o_=>False) (hA'.mono (by decide)) hh ht H' haj (hoj [] us)) (fun o_ o_ q=>q.elim) ?_
   rintro o_ h₂ ⟨ea,T,rfl,fl⟩
   exact⟨ea,some T,h',rfl,H',fl⟩
  ·intro e h' H'
   refine (?_ : SB c _ _ _ _ _ _ _ _ _ _) h' H'
   refine Y6 (Za 0 rfl rfl) fun h₂ H2 v hv=>?_
   rw[List.append_nil] at i2
   have H3:=H2.drop (i:=as.length) (a:=L + 1) (Yh rfl) fun b ob o_ e=>e
   rw[Jp rfl,Jp (by simp[H.len])] at H3
   exact⟨ps,us,o,hv,i2,i3,i5,H.leave₀ H3⟩
 | cons x0 xt =>
  refine sb_try (cls:="IndexError") (T:="IndexError") (vs':=[some (.ref o)]) (as':=[]) (os':=[.li []]) FO1 (fun B h' H'=>(show EV c B (callEnvC fdEM L 892) _ _ _ _ _ _ _ from Zr (by rfl) Mk U2) h' H') (by kernel_rfl) (by kernel_rfl) (by kernel_rfl) ?_ ?_
  ·intro h' H'
   have hd:=H'.hd hou (hos _)
   refine Yj (Xa H' (Za 0 rfl rfl) F.plainAttrs_list F.slot_list_append F.type_list_append hd.1 hd.2 (Zi (w_sub (Yl H' (Xm (by rfl) n_po) k_po (Zq H' (Xv (by rfl) (by rfl) (.ld as.length (Yh rfl) (Yh (by simp[H.len])))) (Zd ⟨H'.kin,?_⟩))))))
   refine Zh (Ms (hA'.mono (by decide)) H' haj (hoj _ us) (fun v hv=>(kx v hv).mono st) (ya (S7 (Nat.le_add_left ..) (S9 hlen)) hz (by decide)) (by simp) ?_) ?_ (fun o_ o_ q=>q.elim)
   ·exact V0 (fun x hx y hy=>Vw st (kx x hx) (kx y hy)) i1
   ·rintro r h₁ ⟨xs'',p1,p2,p3,H1⟩
    have mr : r∈x0 :: xt:=p1.mem_iff.mp (.head _)
    have mx : ∀ x∈xs'',x∈x0 :: xt:=fun x hx=>p1.mem_iff.mp (.tail _ hx)
    replace p2 : Xc (vlt g.hp) xs'':=V0 (fun x hx y hy=>(Vw st (kx x (mx x hx)) (kx y (mx y hy))).symm) p2
    replace p3 : ∀ x∈xs'',le (vlt g.hp) r x:=fun x hx=>(Vw st (kx x (mx x hx)) (kx r mr)).symm.trans (p3 x hx)
    obtain⟨ra,k1,k2,u1,u2,rfl,zr⟩:=kx r mr
    have ek : key g.hp (.ref ra)=(k1,k2):=Jg zr
    have pl:=p1.length_eq
    simp only[List.length_cons] at pl hlen
    rw[set3 jl] at H1
    refine (ev_i (n:=1)).runI H1 fun t=>?_
    refine w_tailT (H1.get (.fz (zr.stay st))) (by decide) (by simp) rfl (Zd (X8 H1 hou (hos xs'') (by rw[sizeLine_eq];exact Na (yh hul hlen hz (by decide))) fun h₂ H2=>?_))
    rw[Vg (by simp[H.len])] at H2
    refine Zg (fun h₃ H3=>?_) h₂ H2
    have hou3 : (as ++ [L + 1] ++ [o])[as.length + 1]?=some o:=Yy rfl
    have hos3 : (os.set j (.li xs'') ++ [.ce (some (.ref l))] ++ [.li (us ++ [.int k2 u2])])[as.length + 1]?=some (.li (us ++ [.int k2 u2])):=Yy (by simp[H.len])
    have hd:=H3.hd hou3 hos3
    refine Yj (Xa H3 (Za 0 rfl rfl) F.plainAttrs_list F.slot_list_extend F.type_list_extend hd.1 hd.2 (Zi (Sh (ns':=["k"]) (cl:=[("heap",L + 1)]) H3 ?_
     (w_range2 H3 (Zr (by rfl) Jv boot_range) (a:=1) (b:=xs''.length) ev_i (Uh (Zr (by rfl) Uf boot_len) (Xv (by rfl) (by rfl) (.ld as.length (Yh rfl) (Yh (by simp[H.len])))) (.ld j haj (hoj _ _)) (yi pl hlen hz (by decide))) (by decide) (by decide) (yd _) (s9 (yi pl hlen hz (Nat.le_refl _)) (by decide)) fun it h4 H4=>?_))))
    ·exact⟨dk,by kernel_rfl,dk,by kernel_rfl,dk,dk,dk⟩
    ·refine .of ⟨subB g h env ns vs as,it,((xs''.length : Int) - 1).toNat,fun i=>.itR (1 + i) (((xs''.length : Int) - 1).toNat - i) 1,fun i v=>isI (1 + i) v,fun o_=>True,fun i o_ l'=>l'=[],Zt _,rfl,rfl,J4 hh,trivial,H4,yj (yi pl hlen hz (by decide)),fun i g' l' e=>by subst e;simp,fun o_ o_=>rfl,?_,?_⟩
     ·rintro i g' vs' o_ o_ h5 E acc QX QT hi rfl st' efs ⟨tv,rfl⟩ hl' H5
      obtain⟨w0,rfl⟩ : ∃ w0,vs'=[w0]:=by
       cases vs' with
       | nil=>simp at hl'
       | cons w0 r=>cases r with
        | nil=>exact⟨w0,rfl⟩
        | cons _ _=>simp at hl'
      have b1 : i + 1 < xs''.length:=yk hi
      have b2 : i / 2 < xs''.length:=S5 (Nat.div_le_self ..) (Nat.lt_of_succ_lt b1)
      obtain⟨a1,x1,y1,t1,t1',e1,z1⟩:=(kx _ (mx _ (List.getElem_mem b1))).mono (Zc st st')
      obtain⟨a2,x2,y2,t2,t2',e2,z2⟩:=(kx _ (mx _ (List.getElem_mem b2))).mono (Zc st st')
      have hlt : lt2 x1 y1 x2 y2=false:=by
       have:=p2 (i + 1) b1 (by exact Nat.succ_pos _)
       unfold le vlt at this
       rw[← (kx _ (mx _ (List.getElem_mem b1))).key (Zc st st'),e1,Jg z1] at this
       simp only[Nat.add_sub_cancel] at this
       rw[← (kx _ (mx _ (List.getElem_mem b2))).key (Zc st st'),e2,Jg z2] at this
       exact this
      have hfd : ((1 + (i : Int)) - 1).fdiv 2=((i / 2 : Nat) : Int):=by
       rw[Int.fdiv_eq_ediv_of_nonneg _ (by decide)];lia
      refine Yp 0 rfl rfl H5 fun h6 H6=>?_
      have hL : ∀ {sp1 sp2 : Sp},Loc g' (as ++ [L + 1] ++ [o] ++ [it] ++ [acc]) (os.set j (.li xs'') ++ [.ce (some (.ref l))] ++ [.li (us ++ [.int k2 u2])] ++ [sp1] ++ [sp2]) (L + 1) (.ce (some (.ref l))):=.ld as.length (by simp) (by simp[H.len])
      refine M0 (Xs (d:=false) (TV.cast (Zb
       (Yc (v:=.ref a1) (Xv (by kernel_rfl) (by rfl) hL) (Zj 0 rfl rfl) (.ld j (ap (ap haj _) _) (ap (ap (hoj _ _) _) _)) (by exact Int.natCast_nonneg (1 + i)) (yi pl hlen hz (by decide)) (by rw[show (1 + (i : Int)).toNat=i + 1 by exact Nat.add_comm _ _,Nc b1,e1]))
       (Yc (v:=.ref a2) (Xv (by kernel_rfl) (by rfl) hL) (V7 (T8 (Zj 0 rfl rfl) ev_i) ev_i (by decide) (by decide)) (.ld j (ap (ap haj _) _) (ap (ap (hoj _ _) _) _)) (by rw[hfd];exact Int.natCast_nonneg _) (yi pl hlen hz (by decide)) (by rw[hfd,Int.toNat_natCast,Nc b2,e2]))
       (lt_tt hA'.units (.fz z1) (.fz z2))) hlt) H6 ?_)
      refine ifF (by simp) ?_
      exact⟨g',_,Zt _,rfl,rfl,H6,rfl⟩
     ·rintro g' o_ h5 acc rfl st' fo' H5
      refine Zd (c_extend (m:=[]) H5 (i:=as.length + 1) (ap hou3 _) (ap hos3 _) (.ld (as.length + 2) (by simp) (by simp[H.len])) (by simp;exact Nat.succ_lt_succ (yh hul hlen hz (by decide))) fun h6 H6=>?_)
      rw[List.append_nil,Xh (ap hos3 _)] at H6
      have H7:=(H6.take (as.length + 2)).weaken (g':=subB g h env ns vs as) H3.low st' fo'.symm
      rw[List.take_left' (by simp),List.take_left' (by simp[H.len])] at H7
      refine Zg (fun h8 H8=>?_) h6 H7
      refine⟨xs''.length,by simp;exact S9 ‹_›,xs'',ps ++ [.ref ra],us ++ [.int k2 u2],rfl,H8,p2,?_,?_,?_,i5.snoc ⟨u2,by rw[ek]⟩⟩
      ·rw[List.append_assoc]
       exact (List.Perm.append_left ps p1).trans i2
      ·rw[List.pairwise_append]
       refine⟨i3,by simp,fun p hp q hq=>?_⟩
       simp at hq;subst hq
       exact i4 p hp _ mr
      ·intro p hp x hx
       rcases Nh hp with hp | hp
       ·exact i4 p hp x (mx x hx)
       ·simp at hp;subst hp;exact p3 x hx
  ·intro e h' H'
   exact absurd H'.len (by simp)
theorem Led.grow (H : Led c env g ns vs as os h) {h' : Heap}(k : ∀ b o,h.get? b=some o→h'.get? b=some o) : Led c env g ns vs as os h':=
 ⟨H.eo,H.base,⟨H.fr.ns.keeps k,fun b o e=>k _ _ (H.fr.keep b o e),H.fr.above⟩,H.low,fun b o e=>k _ _ (H.keep b o e),H.lg,fun p hp=>(H.fo p hp).keeps k,H.fd,H.fg,H.fa,H.len,H.nd,H.nl,H.new,fun i a o ea eo=>(H.at_ i a o ea eo).mono fun o e=>k _ _ e⟩
theorem Ma {h h' : Heap}(x : Heap.ExtBut h.objs.size h h') : ∀ b o,h.get? b=some o→h'.get? b=some o:=fun b o e=>x b o (Nat.ne_of_lt (Heap.lt_size e)) e
theorem Vs {a : Addr}{l : List Value}{n : Nat}{Q : List Value→Heap→Prop}(hh : A.handled=none) (H : Led c env g ns vs as os h) (z : Loc g as os a (.tu l)) (hn : n=l.length) (k : ∀ h',Led c env g ns vs as os h'→Q l h') : W c A (unpackItems (.ref a) n none) Q X h:=fun kk=>by
 have:=unpackItems_tuple (prog:=prg) (w:=c.w) (s:=stt c h kk) (Q:=fun a s'=>Okk c s'∧Q a s'.heap) (E:=fun e s'=>Okk c s'∧X e s'.heap) hh (H.get z).isTup (fun h' x=>⟨⟨rfl,rfl,rfl⟩,k h' (H.grow (Ma x))⟩)
 rw[hn];simpa using this
theorem Ud {Q : Unit→Heap→Prop}(k : Q () h) : W c A (assignInOrder [] []) Q X h:=fun kk=>wpAny_pure ⟨⟨rfl,rfl,rfl⟩,k⟩
theorem Yi {t : Value→Sem Unit}{ts : List (Value→Sem Unit)}{v : Value}{ws : List Value}{Q : Unit→Heap→Prop}(x : W c A (t v) (fun o_ h'=>W c A (assignInOrder ts ws) Q X h') X h) : W c A (assignInOrder (t :: ts) (v :: ws)) Q X h:=fun kk =>
 wpAny_bind (wpAny_holding (wpAny_mono (x kk) (fun o_ s' q=>Zy q.2 q.1) fun o_ o_ q=>q))
theorem Tm {x : Str}{v : Value}{v0 : Option Value}{Q : Unit→Heap→Prop}(i : Nat) (hn : ns[i]?=some x) (hi : vs[i]?=some v0) (H : Led c env g ns vs as os h) (k : ∀ h',Led c env g ns (vs.set i (some v)) as os h'→Q () h') :
 W c A (bindName env x v) Q X h:=fun kk=>wpAny_bindName (Zp i hn hi H k kk)
theorem Ss {elts : List Expr}{k : Nat}{pos : Pos}{a : Addr}{l : List Value}{Q : Unit→Heap→Prop}(hh : A.handled=none) (H : Led c env g ns vs as os h) (z : Loc g as os a (.tu l)) (hn : (assignEach elts env).length=l.length)
 (y : ∀ h',Led c env g ns vs as os h'→W c A (assignInOrder ((assignEach elts env).map (·.2)) l) Q X h') (hstar : autoParam ((assignEach elts env).findIdx? (·.1)=none) zR) : W c A (assign (.Tuple elts k pos) env (.ref a)) Q X h:=fun kk =>
 assign_Tuple_tuple (s:=stt c h kk) hh (H.get z).isTup (by simpa using hn) hstar fun h' x=>y h' (H.grow (Ma x)) _
theorem Vm {elts : List Expr}{k : Nat}{tpos pos : Pos}{value : Expr}{rest : List Stmt}{Q : Flow→Heap→Prop}(x : W c A (eval value env) (fun v h₁=>W c A (assign (.Tuple elts k tpos) env v) (fun o_ h₂=>W c A (execs rest env) Q X h₂) X h₁) X h)
 (hs : autoParam (swapsWithSole [.Tuple elts k tpos] value pos.line env=pure false) zR) (hw : autoParam (swappedStores [.Tuple elts k tpos] value env=pure none) zR) : W c A (execs (.Assign [.Tuple elts k tpos] value pos :: rest) env) Q X h:=Yz fun kk =>
 Assign_Tuple (wpAny_mono (x kk) (fun v s1 q=>Zy q.2 q.1) fun o_ o_ q=>q) hs hw
theorem w_assignS {elts : List Expr}{k : Nat}{tpos pos : Pos}{value : Expr}{rest : List Stmt}(names : List Str) {Q : Flow→Heap→Prop}
 (x : W c A (eval value env) (fun v h₁=>W c A (unpackItems v names.length none) (fun items h₂=>W c A (assignInOrder (names.reverse.map fun n=>bindName env n) items.reverse) (fun o_ h₃=>W c A (execs rest env) Q X h₃) X h₂) X h₁) X h)
 (hw : swappedStores [.Tuple elts k tpos] value env=pure (some names)) (hs : autoParam (swapsWithSole [.Tuple elts k tpos] value pos.line env=pure false) zR) : W c A (execs (.Assign [.Tuple elts k tpos] value pos :: rest) env) Q X h:=Yz fun kk =>
 Assign_Tuple_swapped (names:=names) (wpAny_mono (x kk) (fun v s1 q=>wpAny_mono (Zy q.2 q.1) (fun items s2 q=>Zy q.2 q.1) fun o_ o_ q=>q) fun o_ o_ q=>q) hs hw
theorem c_addL {a b : Addr}{l m : List Value}{Q : Value→Heap→Prop}(H : Led c env g ns vs as os h) (ha : Loc g as os a (.li l)) (hb : Loc g as os b (.li m)) (hz : l.length + m.length < 100000)
 (k : ∀ r h',Led c env g ns vs (as ++ [r]) (os ++ [.li (l ++ m)]) h'→Q (.ref r) h') : W c A (binaryOp .Add (.ref a) (.ref b)) Q X h:=fun kk=>by
 obtain⟨n,hn⟩:=(H.get ha).li
 obtain⟨n2,hn2⟩:=(H.get hb).li
 refine concat_meets (s:=stt c h kk) ⟨_,hn,rfl⟩ ⟨_,hn2,rfl⟩ noFill_list_add seq_list_add PySem.F.slot_list_add PySem.F.entry_list_add (PySem.F.args_list_add_2 _ _) (list_addW a b l.toArray m.toArray n n2 none none #[] #[] (by simp;rw[sizeLine_eq];exact q3 ‹_› (by decide))) ⟨hn,hn2,?_⟩
 rw[show l.toArray ++ m.toArray=(l ++ m).toArray by simp]
 exact⟨⟨rfl,rfl,rfl⟩,k _ _ (H.newL (l ++ m))⟩
theorem Led.key (H : Led c env g ns vs (as ++ [a]) (os ++ [tu2 x i t u]) h) : ∃ g',g.hp.StaysIn g'.hp∧g'.fo=g.fo∧Led c env g' ns vs as os h∧Y2 g'.hp (.ref a)∧Mine.key g'.hp (.ref a)=(x,i):=
 by obtain⟨g',a1,a2,a3,a4⟩:=H.solid;exact⟨g',a1,a2,a3,⟨a,x,i,t,u,rfl,a4⟩,Jg a4⟩
noncomputable def Zx (g : Heap) (v : Value) (p : Int × Int) : Prop:=∃ a t u,v=.ref a∧At g a (tu2 p.1 p.2 t u)
theorem Zx.mono {g g' : Heap}{v : Value}{p : Int × Int}(x : Zx g v p) (k : g.StaysIn g') : Zx g' v p:=by obtain⟨a,t,u,e,z⟩:=x;exact⟨a,t,u,e,z.stay k⟩
theorem pget {α β : Type}{F : α→β→Prop}{l : List α}{m : List β}(p : Paired F l m) {i : Nat}{b : β}(h : m[i]?=some b) : ∃ a,l[i]?=some a∧F a b:=by
 induction p generalizing i with
 | nil=>cases h
 | cons x _ ih=>cases i with
  | zero=>cases h;exact⟨_,rfl,x⟩
  | succ i=>exact ih (i:=i) h
theorem Un {α β : Type}{F G : α→β→Prop}(h : ∀ a b,F a b→G a b) {l : List α}{m : List β}(p : Paired F l m) : Paired G l m:=by
 induction p with
 | nil=>exact .nil
 | cons x _ ih=>exact .cons (h _ _ x) ih
noncomputable def Ui (ps : List (Int × Int)) (i : Nat) : List (Int × Int):=(List.range i).filterMap fun k=>match ps[k]? with
 | some p=>if p.1 < p.2 then some (p.1,(k : Int)) else none
 | none=>none
noncomputable def Vr (ps : List (Int × Int)) (i : Nat) : List (Int × Int):=(List.range i).filterMap fun k=>match ps[k]? with
 | some p=>if p.1 < p.2 then none else some (-p.2,(k : Int))
 | none=>none
theorem Ua {ps : List (Int × Int)}{i : Nat}{p : Int × Int}(h : ps[i]?=some p) : Ui ps (i + 1)=Ui ps i ++ if p.1 < p.2 then [(p.1,(i : Int))] else []:=by
 unfold Ui
 rw[List.range_succ,List.filterMap_append]
 congr 1
 simp only[List.filterMap_cons,h,List.filterMap_nil]
 split <;> simp_all
theorem Uu {ps : List (Int × Int)}{i : Nat}{p : Int × Int}(h : ps[i]?=some p) : Vr ps (i + 1)=Vr ps i ++ if p.1 < p.2 then [] else [(-p.2,(i : Int))]:=by
 unfold Vr
 rw[List.range_succ,List.filterMap_append]
 congr 1
 simp only[List.filterMap_cons,h,List.filterMap_nil]
 split <;> simp_all
theorem Si (ps : List (Int × Int)) (i : Nat) : (Ui ps i).length≤i:=by
 unfold Ui;exact S7 (List.length_filterMap_le ..) (by simp)
theorem lateK_len (ps : List (Int × Int)) (i : Nat) : (Vr ps i).length≤i:=by
 unfold Vr;exact S7 (List.length_filterMap_le ..) (by simp)
noncomputable abbrev fdOR : FuncData:=Xl (st 35) "_law_order" .none (.str "law_dn0072_05" 1378) (.ref 898)
noncomputable abbrev psOR : List PySem.Str:=["parts"]
noncomputable abbrev rsOR : List PySem.Str:=["early","late","i"]
theorem F_or : FnK 899 fdOR (fnB (st 35)) (psOR ++ rsOR):=⟨fun P=>by kernel_rfl,fun P=>by kernel_rfl,rfl,by kernel_rfl,dk,dk,dk,rfl,rfl,by kernel_rfl,by kernel_rfl⟩
theorem B_or (a : Value) : bindArgs fdOR ⟨[a],[]⟩=pure (psOR.zip [a]):=by kernel_rfl
theorem n_em (P : Params) : nsIn (K P) mainGlobals "_law_emptied"=some (some (.ref 892)):=by kernel_rfl
theorem k_em : Jc 892:=fun P=>by kernel_rfl
noncomputable def KLt : Int × Int→Int × Int→Bool:=fun p q=>lt2 p.1 p.2 q.1 q.2
noncomputable def Jk (ps : List (Int × Int)) (ord : List Int) : Prop:=
 ∃ E T : List (Int × Int),E.Perm (Ui ps ps.length)∧E.Pairwise (le KLt)∧T.Perm (Vr ps ps.length)∧T.Pairwise (le KLt)∧ord=(E ++ T).map (·.2)
structure HpL (g : Heap) (xs : List Value) (ks : List (Int × Int)) : Prop where
 isk : ∀ v∈xs,Y2 g v
 heap : Xc (vlt g) xs
 perm : (xs.map (key g)).Perm ks
theorem HpL.mono {g g' : Heap}{xs : List Value}{ks : List (Int × Int)}(x : HpL g xs ks) (k : g.StaysIn g') : HpL g' xs ks:=
 ⟨fun v hv=>(x.isk v hv).mono k,V0 (fun a ha b hb=>Vw k (x.isk a ha) (x.isk b hb)) x.heap,by
  rw[List.map_congr_left (g:=key g) fun a ha=>(x.isk a ha).key k];exact x.perm⟩
theorem HpL.nil (g : Heap) : HpL g [] []:=⟨fun o_ h=>(nomatch h),heap_nil,by simp⟩
theorem HpL.push {g : Heap}{xs : List Value}{ks : List (Int × Int)}(x : HpL g xs ks) {v : Value}(hv : Y2 g v) : HpL g (hpush (vlt g) xs v) (ks ++ [key g v]):=by
 have hp : (hpush (vlt g) xs v).Perm (v :: xs):=hpush_perm
 refine⟨fun w hw=>?_,hpush_heap (vlt_so g) x.heap,?_⟩
 ·rcases List.mem_cons.mp (hp.mem_iff.mp hw) with rfl | hw
  ·exact hv
  ·exact x.isk w hw
 ·refine (hp.map (key g)).trans ?_
  rw[List.map_cons]
  exact (List.Perm.cons _ x.perm).trans (List.perm_append_singleton _ _).symm
theorem HpL.len {g : Heap}{xs : List Value}{ks : List (Int × Int)}(x : HpL g xs ks) : xs.length=ks.length:=by have:=x.perm.length_eq;simpa using this
theorem Led.sub (H : Led c env g ns vs as os h) {as' : List Addr}{os' : List Sp}(hl : as'.length=os'.length) (hn : as'.Nodup) (hs : ∀ (i : Nat) a o,as'[i]?=some a→os'[i]?=some o→∃ j : Nat,as[j]?=some a∧os[j]?=some o) : Led c env g ns vs as' os' h:=by
 have sub : ∀ a∈as',a∈as:=fun a ha=>by
  obtain⟨i,hi⟩:=List.mem_iff_getElem?.mp ha
  have:=(Nf hi).1
  obtain⟨j,e,o_⟩:=hs i a (os'[i]'(by exact r1 ‹_› ‹_›)) hi (Nc _)
  exact Nd e
 exact⟨H.eo,H.base,H.fr,H.low,H.keep,H.lg,H.fo,H.fd,H.fg,fun a ha q=>H.fa a ha (sub a q),hl,hn,fun q=>H.nl (sub _ q),fun a ha=>H.new a (sub a ha),fun i a o e k=>(hs i a o e k).elim fun j e=>H.at_ j a o e.1 e.2⟩
theorem Led.ends {a : Addr}{o : Sp}{ar : List Addr}{or' : List Sp}(H : Led c env g ns vs (as ++ ar ++ [a]) (os ++ or' ++ [o]) h) (hl : as.length=os.length) : Led c env g ns vs (as ++ [a]) (os ++ [o]) h:=by
 have hlen:=H.len
 simp at hlen
 refine H.sub (by simp[hl]) ?_ fun i b p e k=>?_
 ·have:=H.nd
  rw[List.append_assoc] at this
  exact this.sublist (List.Sublist.append (List.Sublist.refl _) (List.sublist_append_right _ _))
 ·by_cases hi : i < as.length
  ·rw[List.getElem?_append_left hi] at e
   rw[List.getElem?_append_left (by exact r1 ‹_› ‹_›)] at k
   exact⟨i,ap (ap e _) _,ap (ap k _) _⟩
  ·have:=(Nf e).1
   simp at this
   obtain rfl : i=as.length:=Nat.le_antisymm (Nat.le_of_lt_succ this) (Nat.le_of_not_lt hi)
   simp at e;subst e
   rw[hl] at k;simp at k;subst k
   exact⟨(as ++ ar).length,by simp,by rw[show (as ++ ar).length=(os ++ or').length by simp;grind];simp⟩
theorem pmapL {α β γ : Type}{F : β→γ→Prop}(f : α→β) {l : List α}{m : List γ}(p : Paired (fun a b=>F (f a) b) l m) : Paired F (l.map f) m:=by
 induction p with
 | nil=>exact .nil
 | cons x _ ih=>exact .cons x ih
theorem papp {α β : Type}{F : α→β→Prop}{l l' : List α}{m m' : List β}(p : Paired F l m) (h : Paired F l' m') : Paired F (l ++ l') (m ++ m'):=by
 induction p with
 | nil=>exact h
 | cons x _ ih=>exact .cons x ih
theorem Mr {e1 e2 : Expr}{p p' p3 : Pos}{kn i : Nat}{P : Addr}{pvs : List Value}{ps : List (Int × Int)}{q : Int × Int}(x : EV c A env e1 g ns vs as os (·=.ref P)) (y : EV c A env e2 g ns vs as os (isI i)) (hP : At g.hp P (.li pvs)) (hps : Paired (Zx g.hp) pvs ps) (hq : ps[i]?=some q) (hz : pvs.length < 2 ^ 63)
 (hs : autoParam (∀ t,subscripted e2 false (.ref P) (.int i t)=operate [.ref P,.int i t] (getItem (.ref P) (.int i t))) zV) : EV c A env (.Subscript (.Subscript e1 e2 p) (.Constant (.int 0) kn p3) p') g ns vs as os (isI q.1):=by
 obtain⟨pv,e1,⟨pa,ta,tb,rfl,zp⟩⟩:=pget hps hq
 exact (Mh (Yc x y (.fz hP) (by with_reducible exact Int.natCast_nonneg _) hz (by simpa using e1) hs) ev_i (.fz zp) (by decide) (by simp) (by rfl)).mono fun v e=>⟨_,e⟩
theorem Mt {e1 e2 : Expr}{p p' p3 : Pos}{kn i : Nat}{P : Addr}{pvs : List Value}{ps : List (Int × Int)}{q : Int × Int}(x : EV c A env e1 g ns vs as os (·=.ref P)) (y : EV c A env e2 g ns vs as os (isI i)) (hP : At g.hp P (.li pvs)) (hps : Paired (Zx g.hp) pvs ps) (hq : ps[i]?=some q) (hz : pvs.length < 2 ^ 63)
 (hs : autoParam (∀ t,subscripted e2 false (.ref P) (.int i t)=operate [.ref P,.int i t] (getItem (.ref P) (.int i t))) zV) : EV c A env (.Subscript (.Subscript e1 e2 p) (.Constant (.int 1) kn p3) p') g ns vs as os (isI q.2):=by
 obtain⟨pv,e1,⟨pa,ta,tb,rfl,zp⟩⟩:=pget hps hq
 exact (Mh (Yc x y (.fz hP) (by with_reducible exact Int.natCast_nonneg _) hz (by simpa using e1) hs) ev_i (.fz zp) (by decide) (by simp) (by rfl)).mono fun v e=>⟨_,e⟩
theorem order_ok {P : Addr}{pvs : List Value}{ps : List (Int × Int)}(hA : Rm A 12) (hh : A.handled=none) (FA : FR A (env.locals :: g.fs)) (H : Led c env g ns vs as os h) (hP : At g.hp P (.li pvs)) (hps : Paired (Zx g.hp) pvs ps) (hn : ps.length < 100) :
 W c A (call (.ref 899) [.ref P]) (fun v h'=>Ex3 fun (ord : List Int) (us : List Value) (a : Addr)=>An4 (v=.ref a) (Jk ps ord) (Paired (fun i u=>isI i u) ord us) (Led c env g ns vs (as ++ [a]) (os ++ [.li us]) h')) noX h:=by
 refine Zl ?_
 intro Q'
 refine Us H F_or hA.depth (B_or _) rfl dk fun L h₁ H1=>?_
 have FO1 : FO (A.deeper (callEnv fdOR L 899)) (callEnv fdOR L 899) (subB g h env ns vs as).fs:=FA.deep (env':=callEnv fdOR L 899) F_or.knd rfl
 have hA':=hA.deep (callEnv fdOR L 899)
 have st:=H.stay
 have hpl : pvs.length=ps.length:=hps.length
 refine w_assignS ["early","late"] (Zh (Q:=fun v h'=>∃ e l t,v=.ref t∧Led c (callEnv fdOR L 899) (subB g h env ns vs as) (psOR ++ rsOR) [some (.ref P),none,none,none] (as ++ [e] ++ [l] ++ [t]) (os ++ [Sp.li []] ++ [Sp.li []] ++ [Sp.tu [.ref e,.ref l]]) h')
  (Yr (Zi (Je (Zd ⟨by simp,Zi (Je (Zd ⟨by simp,Zd ⟨by rw[sizeLine_eq];simp,_,_,_,rfl,((H1.newL []).newL []).newT _⟩⟩))⟩)))) ?_ (fun o_ o_ q=>q)) (by rfl)
 rintro o_ h₂ ⟨e,l,t,rfl,H2⟩
 refine Vs (l:=[.ref e,.ref l]) hh H2 (.ld (as.length + 2) (by simp) (by simp[H.len])) rfl fun h₃ H3=>?_
 have H4:=H3.take (as.length + 2)
 rw[List.take_left' (by simp),List.take_left' (by simp[H.len])] at H4
 refine Yi (Tm 2 rfl rfl H4 fun h5 H5=>Yi (Tm 1 rfl rfl H5 fun h6 H6=>Ud ?_))
 clear H5 h5 H4 H3 h₃ H2 h₂ H1 h₁
 have g1 : (as ++ [e] ++ [l])[as.length]?=some e:=Yh rfl
 have g2 : (as ++ [e] ++ [l])[as.length + 1]?=some l:=Yy rfl
 have o1 : ∀ (a b : Sp),(os ++ [a] ++ [b])[as.length]?=some a:=fun a b=>Yh H.len
 have o2 : ∀ (a b : Sp),(os ++ [a] ++ [b])[as.length + 1]?=some b:=fun a b=>by rw[H.len];exact Yy rfl
 have s1 : ∀ (a b x : Sp),(os ++ [a] ++ [b]).set as.length x=os ++ [x] ++ [b]:=fun a b x=>V9 H.len
 have s2 : ∀ (a b x : Sp),(os ++ [a] ++ [b]).set (as.length + 1) x=os ++ [a] ++ [x]:=fun a b x=>by rw[H.len];exact Vg rfl
 refine (?_ : SB c _ _ _ _ _ _ _ _ _ _) h6 H6
 clear H6 h6
 refine X9 (fun h'=>Ex4 fun (g' : Bas) (xe xl : List Value) (x : Option Value)=>An5 ((subB g h env ns vs as).hp.StaysIn g'.hp) (g'.fo=(subB g h env ns vs as).fo) (HpL g'.hp xe (Ui ps ps.length)) (HpL g'.hp xl (Vr ps ps.length)) (Led c (callEnv fdOR L 899) g' (psOR ++ rsOR) [some (.ref P),some (.ref e),some (.ref l),x] (as ++ [e] ++ [l]) (os ++ [Sp.li xe] ++ [Sp.li xl]) h')) ?_ ?_
 intro F'
 refine fun h' H'=>U7 H' (Zr (by rfl) Jv boot_range) (Uh (Zr (by rfl) Uf boot_len) (Za 0 rfl rfl) (.fz (hP.stay st)) (by exact q5 ‹_› ‹_› (by decide))) (yd _) (by exact t1 ‹_› ‹_› (by decide)) fun it h'' H''=>?_
 ·refine⟨it,pvs.length,fun i=>.itR (0 + i) (pvs.length - i) 1,fun i v=>isI (0 + i) v,fun o_=>True,fun i g' vs' as' os'=>Ex3 fun (xe xl : List Value) (x : Option Value)=>An7 ((subB g h env ns vs as).hp.StaysIn g'.hp) (g'.fo=(subB g h env ns vs as).fo) (HpL g'.hp xe (Ui ps i)) (HpL g'.hp xl (Vr ps i)) (vs'=[some (.ref P),some (.ref e),some (.ref l),x]) (as'=as ++ [e] ++ [l]) (os'=os ++ [Sp.li xe] ++ [Sp.li xl]),rfl,J4 hh,⟨_,_,_,_,⟨[],[],none,Zt _,rfl,HpL.nil _,HpL.nil _,rfl,rfl,rfl⟩,H''⟩,fun o_ o_ o_ o_ o_ o_=>trivial,?_,?_⟩
  ·rintro J' i QL g' o_ o_ o_ v h₃ hi ⟨xe,xl,x,j1,j2,j3,j4,rfl,rfl,rfl⟩ hv H3
   refine H3.lv ?_
   clear H3
   intro vl H3
   obtain⟨t',rfl⟩ : isI i v:=by simpa using hv
   have hip : i < ps.length:=r1 hi hpl
   have hq : ps[i]?=some ps[i]:=Nc hip
   have hP':=hP.stay (Zc st j1)
   have hps':=Un (fun a b (z : Zx g.hp a b)=>z.mono (Zc st j1)) hps
   have lE:=j3.len
   have lT:=j4.len
   have lE':=Si ps i
   have lT':=lateK_len ps i
   refine Yp 3 rfl rfl H3 fun h4 H4=>?_
   refine (?_ : SB c _ _ _ _ _ _ _ _ _ _) h4 H4
   clear H4 h4 H3 h₃
   refine Ym (d:=decide (ps[i].1 < ps[i].2)) (Zb (Mr (Za 0 rfl rfl) (Zj 3 rfl rfl) hP' hps' hq (by exact q5 ‹_› ‹_› (by decide))) (Mt (Za 0 rfl rfl) (Zj 3 rfl rfl) hP' hps' hq (by exact q5 ‹_› ‹_› (by decide))) T0) (fun hd=>?_) (fun hd=>?_)
   ·have hd' : ps[i].1 < ps[i].2:=of_decide_eq_true hd
    refine Ur fun h4 H4=>Yl H4 (Xm (by rfl) n_pu) k_pu (Zq H4 (Za 1 rfl rfl) (Zi (Yr (Y7 H4 (Mr (Za 0 rfl rfl) (Zj 3 rfl rfl) hP' hps' hq (by exact q5 ‹_› ‹_› (by decide))) fun t1=>Zq H4 (Za 3 rfl rfl) (Zd ⟨by rw[sizeLine_eq];simp,Zd ?_⟩)))))
    obtain⟨gg,r1,r2,H5,r4,r5⟩:=(H4.newT [.int ps[i].1 t1,.int i t']).key
    refine⟨H5.kin,?_⟩
    have j3':=j3.mono r1
    refine Zh (Ug (j:=as.length) (hA'.mono (by decide)) H5 (ap g1 _) (ap (o1 _ _) _) j3'.isk r4 (ya (S7 (S9 lE) lE') (S8 hi (hpl ▸ hn)) (by decide))) ?_ (fun o_ o_ q=>q.elim)
    rintro o_ h6 ⟨-,H6⟩
    rw[Z6 (by simp[H.len]),s1] at H6
    refine Zg (fun h7 H7=>?_) h6 H6
    refine Zg (fun h8 H8=>?_) h7 H7
    refine⟨gg,_,_,_,⟨_,xl,_,Zc j1 r1,r2.trans j2,?_,?_,rfl,rfl,rfl⟩,H8⟩
    ·rw[Ua hq,if_pos hd',← r5];exact j3'.push r4
    ·rw[Uu hq,if_pos hd',List.append_nil];exact j4.mono r1
   ·have hd' : ¬ ps[i].1 < ps[i].2:=of_decide_eq_false hd
    refine Ur fun h4 H4=>Yl H4 (Xm (by rfl) n_pu) k_pu (Zq H4 (Za 2 rfl rfl) (Zi (Yr (Y7 H4 (Sb (Mt (Za 0 rfl rfl) (Zj 3 rfl rfl) hP' hps' hq (by exact q5 ‹_› ‹_› (by decide)))) fun t1=>Zq H4 (Za 3 rfl rfl) (Zd ⟨by rw[sizeLine_eq];simp,Zd ?_⟩)))))
    obtain⟨gg,r1,r2,H5,r4,r5⟩:=(H4.newT [.int (-ps[i].2) t1,.int i t']).key
    refine⟨H5.kin,?_⟩
    have j4':=j4.mono r1
    refine Zh (Ug (j:=as.length + 1) (hA'.mono (by decide)) H5 (ap g2 _) (ap (o2 _ _) _) j4'.isk r4 (ya (S7 (S9 lT) lT') (S8 hi (hpl ▸ hn)) (by decide))) ?_ (fun o_ o_ q=>q.elim)
    rintro o_ h6 ⟨-,H6⟩
    rw[Z6 (by simp[H.len]),s2] at H6
    refine Zg (fun h7 H7=>?_) h6 H6
    refine Zg (fun h8 H8=>?_) h7 H7
    refine⟨gg,_,_,_,⟨xe,_,_,Zc j1 r1,r2.trans j2,?_,?_,rfl,rfl,rfl⟩,H8⟩
    ·rw[Ua hq,if_neg hd',List.append_nil];exact j3.mono r1
    ·rw[Uu hq,if_neg hd',← r5];exact j4'.push r4
  ·rintro g' o_ o_ o_ h₃ ⟨xe,xl,x,j1,j2,j3,j4,rfl,rfl,rfl⟩ H3
   exact⟨g',xe,xl,x,j1,j2,hpl ▸ j3,hpl ▸ j4,H3⟩
 ·rintro h₃ ⟨g',xe,xl,x,j1,j2,j3,j4,H3⟩
  have lE:=j3.len
  have lT:=j4.len
  have lE':=Si ps ps.length
  have lT':=lateK_len ps ps.length
  have efs : g'.fs=(subB g h env ns vs as).fs:=by unfold Bas.fs;rw[j2]
  have FR1 : FR (A.deeper (callEnv fdOR L 899)) ((callEnv fdOR L 899).locals :: g'.fs):=by rw[efs];exact FO1.toFR
  refine (?_ : SB c _ _ _ _ _ _ _ _ _ _) h₃ H3
  refine J8 fun h4 H4=>w_bin (Yl H4 (Xm (by rfl) n_em) k_em (Zq H4 (Za 1 rfl rfl) (Zd ⟨H4.kin,Zh (V3 (j:=as.length) (hA'.mono (by decide)) hh FR1 H4 g1 (o1 _ _) j3.isk (ya (S7 (S9 lE) lE') hn (by decide)) j3.heap) ?_ (fun o_ o_ q=>q)⟩)))
  rintro o_ h5 ⟨q1,us1,a1,rfl,b1,b2,b3,H5⟩
  rw[s1] at H5
  refine Yl H5 (Xm (by rfl) n_em) k_em (Zq H5 (Za 2 rfl rfl) (Zd ⟨H5.kin,Zh (V3 (j:=as.length + 1) (hA'.mono (by decide)) hh FR1 H5 (ap g2 _) (ap (o2 _ _) _) j4.isk (ya (S7 (S9 lT) lT') hn (by decide)) j4.heap) ?_ (fun o_ o_ q=>q)⟩))
  rintro o_ h6 ⟨q2,us2,a2,rfl,d1,d2,d3,H6⟩
  rw[Z6 (by simp[H.len]),s2] at H6
  have u1 : us1.length=xe.length:=b3.length.symm.trans b1.length_eq
  have u2 : us2.length=xl.length:=d3.length.symm.trans d1.length_eq
  refine c_addL (l:=us1) (m:=us2) H6 (.ld (as.length + 2) (by simp) (by simp[H.len])) (.ld (as.length + 3) (by simp) (by simp[H.len])) (S5 (Nat.add_le_add (S7 (S9 (u1.trans lE)) lE') (S7 (S9 (u2.trans lT)) lT')) (S8 (Nat.add_lt_add hn hn) (by decide))) fun r h7 H7=>?_
  have H8:=Led.ends (as:=as) (os:=os) (ar:=[e,l,a1,a2]) (or':=[.li [],.li [],.li us1,.li us2]) (by simpa using H7) H.len
  refine⟨(q1 ++ q2).map (fun p=>(key g'.hp p).2),us1 ++ us2,r,rfl,⟨q1.map (key g'.hp),q2.map (key g'.hp),(b1.map _).trans j3.perm,List.pairwise_map.mpr b2,(d1.map _).trans j4.perm,List.pairwise_map.mpr d2,by simp only[List.map_append,List.map_map];rfl⟩,?_,?_⟩
  ·rw[List.map_append]
   exact papp (pmapL (F:=fun i u=>isI i u) (fun p=>(key g'.hp p).2) b3) (pmapL (F:=fun i u=>isI i u) (fun p=>(key g'.hp p).2) d3)
  ·have:=H.leave H8 j1 j2
   exact this.1.weaken (g':=g) H.low this.2 rfl
noncomputable def Vi (h h₀ : Heap) (L : Addr) : List (Addr × Obj):=(List.range h.objs.size).filterMap fun a=>match h.get? a with
 | some o=>if a=L∨(h₀.get? a).isSome then none else some (a,o)
 | none=>none
theorem Vc {h h₀ : Heap}{L a : Addr}{o : Obj} : (a,o)∈Vi h h₀ L ↔ h.get? a=some o∧a≠L∧h₀.get? a=none:=by
 unfold Vi
 rw[List.mem_filterMap]
 constructor
 ·rintro⟨b,hb,e⟩
  split at e
  ·rename_i o' ho
   split at e
   ·cases e
   ·rename_i hn
    cases e
    simp only[not_or,Bool.not_eq_true,Option.isSome_eq_false_iff,Option.isNone_iff_eq_none] at hn
    exact⟨ho,hn⟩
  ·cases e
 ·rintro⟨e,h1,h2⟩
  refine⟨a,List.mem_range.mpr (Heap.lt_size e),?_⟩
  simp[e,h1,h2]
theorem allNews_nd {h h₀ : Heap}{L : Addr} : (Vi h h₀ L).Pairwise fun p q=>p.1≠q.1:=by
 unfold Vi
 refine List.Pairwise.filterMap _ (R:=fun a b=>a≠b) ?_ List.nodup_range
 intro a b hab p hp q hq
 have key : ∀ {x : Addr}{r : Addr × Obj},(match h.get? x with | some o=>if x=L∨(h₀.get? x).isSome then none else some (x,o) | none=>none)=some r→r.1=x:=by
  intro x r hr
  split at hr
  ·split at hr
   ·cases hr
   ·cases hr;rfl
  ·cases hr
 rw[key hp,key hq];exact hab
theorem adapt {h h₀ : Heap}{L : Addr}{m : Str→Option Value}(F : Fr h₀ L h m) {dx : Addr}{od : Obj}(hd : h.get? dx=some od) (h1 : dx≠L) (h2 : h₀.get? dx=none) :
 ∃ pre post,News h₀ L h (pre ++ (dx,od) :: post)∧(∀ p∈pre,p.1≠dx)∧(∀ p∈post,p.1≠dx) ∧
  ∀ od' h',Fr h₀ L h' m→News h₀ L h' (pre ++ (dx,od') :: post)→h'.get? dx=some od'∧h'.Ns L m∧∀ b o,b≠dx→b≠L→h.get? b=some o→h'.get? b=some o:=by
 have hm : (dx,od)∈Vi h h₀ L:=Vc.mpr ⟨hd,h1,h2⟩
 obtain⟨pre,post,e⟩:=List.append_of_mem hm
 have nd:=allNews_nd (h:=h) (h₀:=h₀) (L:=L)
 rw[e,List.pairwise_append] at nd
 refine⟨pre,post,fun p hp=>?_,fun p hp=>nd.2.2 p hp _ (.head _),fun p hp=>((List.pairwise_cons.mp nd.2.1).1 p hp).symm,fun od' h' F' N'=>⟨(N' (dx,od') (by simp)).1,F'.ns,fun b o hb hL e'=>?_⟩⟩
 ·rw[← e] at hp;exact Vc.mp hp
 ·cases q : h₀.get? b with
  | some o' =>
   have:=F.keep _ _ q
   rw[e'] at this;cases this
   exact F'.keep _ _ q
  | none =>
   have hb' : (b,o)∈Vi h h₀ L:=Vc.mpr ⟨e',hL,q⟩
   rw[e] at hb'
   rcases Nh hb' with z | z
   ·exact (N' (b,o) (List.mem_append_left _ z)).1
   ·rcases List.mem_cons.mp z with z | z
    ·cases z;exact absurd rfl hb
    ·exact (N' (b,o) (List.mem_append_right _ (.tail _ z))).1
theorem putL_len (name : Str) (hs : Int) (k v : Value) (es : List DictEntry) : (putL name hs k v es).length≤es.length + 1:=by
 induction es with
 | nil=>exact Nat.le_refl _
 | cons a r ih =>
  simp only[putL];split
  ·exact Nat.le_succ _
  ·exact Nat.succ_le_succ ih
noncomputable def ES (es : List DictEntry) (l : List (Str × Value)) : Prop:=Paired (fun e p=>(∃ t,e.key=.str p.1 t)∧e.val=p.2) es l
noncomputable abbrev atS (l : List (Str × Value)) : Sp:=.pr fun o=>∃ es n,o=dictOf es n∧ES es l
noncomputable def Xx (name : Str) (v : Value) : List (Str × Value)→List (Str × Value)
 | []=>[(name,v)]
 | p :: r=>if p.1=name then (p.1,v) :: r else p :: Xx name v r
theorem isStr_str (n m : Str) (t : Tok) : Value.isStr (.str n t) m=(n == m):=rfl
theorem ES.norefs {es : List DictEntry}{l : List (Str × Value)}(p : ES es l) : es.any (·.refKey)=false:=by
 induction p with
 | nil=>rfl
 | cons x r ih =>
  obtain⟨⟨t,hk⟩,o_⟩:=x
  rw[List.any_cons,ih,Bool.or_false]
  unfold DictEntry.refKey;rw[hk]
theorem ES.find (name : Str) {es : List DictEntry}{l : List (Str × Value)}(p : ES es l) : (es.find? (·.key.isStr name)).map (·.val)=l.lookup name:=by
 induction p with
 | nil=>rfl
 | @cons e q _ _ x _ ih =>
  obtain⟨k,v⟩:=q
  obtain⟨⟨t,hk⟩,hv⟩:=x
  simp only at hk hv
  simp only[List.find?_cons,hk,isStr_str,List.lookup_cons]
  by_cases hn : k=name
  ·subst hn;simp[hv]
  ·have h1 : (k == name)=false:=by simpa using hn
   have h2 : (name == k)=false:=by simpa using Ne.symm hn
   simp only[h1,h2];exact ih
theorem ES.getL {es : List DictEntry}{l : List (Str × Value)}(x : ES es l) (name : Str) : PySem.W.getL name es=some (l.lookup name):=by
 have:=x.find name
 unfold PySem.W.getL
 cases q : es.find? (·.key.isStr name) with
 | some e=>rw[q] at this;simp at this;simp[← this]
 | none=>rw[q] at this;simp at this;simp[← this,x.norefs]
theorem ES.put (name : Str) (hsh : Int) (t : Tok) (v : Value) {es : List DictEntry}{l : List (Str × Value)}(p : ES es l) : ES (putL name hsh (.str name t) v es) (Xx name v l):=by
 induction p with
 | nil=>exact .cons ⟨⟨t,rfl⟩,rfl⟩ .nil
 | @cons e q _ _ x r ih =>
  obtain⟨k,w⟩:=q
  obtain⟨⟨u,hk⟩,hv⟩:=x
  simp only at hk
  simp only[putL,Xx,hk,isStr_str]
  by_cases hn : k=name
  ·subst hn
   simp only[BEq.rfl,if_true]
   exact .cons ⟨⟨u,rfl⟩,rfl⟩ r
  ·simp only[beq_eq_false_iff_ne.mpr hn,Bool.false_eq_true,if_false,if_neg hn]
   exact .cons ⟨⟨u,hk⟩,hv⟩ ih
theorem Led.upd2 (H : Led c env g ns vs as os h) {i : Nat}{a : Addr}{o o' : Sp}{h' : Heap}(ha : as[i]?=some a) (ho : os[i]?=some o) (hn : h'.Ns env.locals (Ja ns vs)) (hs : ∀ b x,b≠a→b≠env.locals→h.get? b=some x→h'.get? b=some x) (e : At h' a o') :
 Led c env g ns vs as (os.set i o') h':=by
 have hm:=Nd ha
 have hg:=H.new a hm
 have kp : g.hp.StaysIn h':=fun b x q=>hs b x (fun z=>by rw[z,hg] at q;cases q) (fun z=>by rw[z,H.lg] at q;cases q) (H.keep b x q)
 have nsk : ∀ {b : Addr}{m : Str→Option Value},b≠a→b≠env.locals→h.Ns b m→h'.Ns b m:=fun hb hl n=>by obtain⟨o,es,ep,e,r⟩:=n;exact⟨o,es,ep,hs _ _ hb hl e,r⟩
 refine⟨H.eo,H.base,⟨hn,fun b x q=>kp _ _ (H.low _ _ q),H.fr.above⟩,H.low,kp,H.lg,fun p hp=>nsk (fun e=>H.fa _ (Vy hp) (e ▸ hm)) (H.fne (Vy hp)) (H.fo p hp),H.fd,H.fg,H.fa,by rw[List.length_set];exact H.len,H.nd,H.nl,H.new,fun j b x eb ex=>?_⟩
 by_cases hj : j=i
 ·subst hj
  rw[ha] at eb;cases eb
  rw[List.getElem?_set_self (Nf ho).1] at ex;cases ex
  exact e
 ·rw[List.getElem?_set_ne (Ne.symm hj)] at ex
  have hb : b≠a:=fun z=>hj (by
   subst z
   exact (List.getElem?_inj (Nf eb).1 H.nd).mp (eb.trans ha.symm))
  exact (H.at_ j b x eb ex).mono fun o e=>hs b o hb (fun z=>H.nl (z ▸ Nd eb)) e
theorem Led.low0 (H : Led c env g ns vs as os h) {a : Addr}(ha : a∈as) : c.b.get? a=none:=by
 cases q : c.b.get? a with
 | none=>rfl
 | some o=>have:=H.low _ _ q;rw[H.new a ha] at this;cases this
noncomputable abbrev Z9 (C dx : Addr) : Obj:=⟨.ref C,some dx,.plain,#[]⟩
noncomputable def Jo (C : Addr) (name : Str) : Prop:=∀ P,plainGet (K P) C name=true∧hasDictIn (K P) C=true∧∃ r,findIn (K P) (.ref C) name=some r∧noGet (K P) r=true
noncomputable def X5 (C : Addr) (name : Str) : Prop:=∀ P,findIn (K P) (.ref C) "__setattr__"=some (some (.builtin "object.__setattr__"))∧plainOver (K P) C=true∧takerIn (K P) C name=some none∧hasDictIn (K P) C=true
theorem Uv {C x dx : Addr}{l : List (Str × Value)}(H : Led c env g ns vs as os h) (I : Loc g as os x (.ob (Z9 C dx))) (D : Loc g as os dx (atS l)) : ∃ es n,PySem.W.InstAt h x (Z9 C dx) C (some (dictOf es n))∧ES es l∧h.get? dx=some (dictOf es n):=by
 obtain⟨ox,e1,rfl⟩:=H.get I
 obtain⟨od,e2,es,n,rfl,x⟩:=H.get D
 exact⟨es,n,⟨e1,rfl,rfl,e2⟩,x,e2⟩
theorem c_get {C x dx : Addr}{l : List (Str × Value)}{name : Str}{v : Value}{b : Bool}{Q : Value→Heap→Prop}(H : Led c env g ns vs as os h) (I : Loc g as os x (.ob (Z9 C dx))) (D : Loc g as os dx (atS l)) (k : Jo C name) (hv : l.lookup name=some v) (hh : handedIn v=true) (q : Q v h) :
 W c A (getAttr (.ref x) name b) Q X h:=fun kk=>by
 obtain⟨es,n,i,e,o_⟩:=Uv H I D
 obtain⟨k1,k2,r,k3,k4⟩:=k c.w.params
 exact get_own (s:=stt c h kk) H.fr H.base.kin i k1 k2 k3 k4 (by rw[e.getL,hv]) hh ⟨⟨rfl,rfl,rfl⟩,q⟩
theorem Ue {C x dx : Addr}{l : List (Str × Value)}{name : Str}{v : Value}{j : Nat}{Q : Unit→Heap→Prop}(H : Led c env g ns vs as os h) (I : Loc g as os x (.ob (Z9 C dx))) (ha : as[j]?=some dx) (ho : os[j]?=some (atS l)) (k : X5 C name) (hz : l.length < 900)
 (q : ∀ h',Led c env g ns vs as (os.set j (atS (Xx name v l))) h'→Q () h') : W c A (setAttr (.ref x) name v) Q X h:=fun kk=>by
 obtain⟨es,n,i,e,e2⟩:=Uv H I (.ld j ha ho)
 obtain⟨k1,k2,k3,k4⟩:=k c.w.params
 have hm:=Nd ha
 obtain⟨pre,post,N,n1,n2,fin⟩:=adapt H.fr e2 (fun z=>H.nl (z ▸ hm)) (H.low0 hm)
 have hl : es.length=l.length:=e.length
 have hp:=e.put name (PyData.keyHash c.w.params name) (kk + 1) v
 have hpl:=putL_len name (PyData.keyHash c.w.params name) (.str name (kk + 1)) v es
 refine set_plain (s:=stt c h kk) (X:=H.kin) i k1 (osa_dict (s:={ stt c h kk with toks:=kk + 1 }) (es:=putL name (PyData.keyHash c.w.params name) (.str name (kk + 1)) v es) (n:=putN name es n) H.fr N H.kin i rfl k2 k3 k4 ?_ n1 n2 (by rw[putName_dict]) rfl (S7 hpl (S7 (Nat.succ_le_succ (S9 hl)) (S7 hz (by decide)))) fun h' F' N'=>?_)
 ·show (PySem.W.getL name es).isSome=true
  rw[e.getL];rfl
 ·obtain⟨f1,f2,f3⟩:=fin _ h' F' N'
  exact⟨⟨rfl,rfl,rfl⟩,q h' (H.upd2 ha ho f2 f3 ⟨_,f1,_,_,rfl,hp⟩)⟩
theorem Rm.under {A : Around}{n : Nat}(r : Rm A (n + 1)) (C : Addr) (l : List Value) (kw : List (Str × Value)) : Rm (A.under (.builtin "type.__call__" ⟨.ref C :: l,kw⟩)) n:=by
 obtain⟨a,b⟩:=r
 constructor
 ·rw[depth_under_kw];exact (Nat.succ_add ..).symm ▸ a
 ·have : (A.under (.builtin "type.__call__" ⟨.ref C :: l,kw⟩)).units≤A.units + 5:=by
   show A.units + (Code.builtin "type.__call__" ⟨.ref C :: l,kw⟩).cUnits≤_
   have : (Code.builtin "type.__call__" ⟨.ref C :: l,kw⟩).cUnits≤5:=by
    rw[show (Code.builtin "type.__call__" ⟨.ref C :: l,kw⟩).cUnits=(Code.builtin "type.__call__" ⟨[],[]⟩).cUnits from rfl]
    exact dk
   exact Nat.add_le_add_left this _
  exact S5 (Nat.add_le_add_right this _) (xq (by decide) b)
theorem FR.under {A : Around}{fs : List Addr}(F : FR A fs) (l : List Value) (kw : List (Str × Value)) : FR (A.under (.builtin "type.__call__" ⟨l,kw⟩)) fs:=by
 obtain⟨x,hx,r⟩:=F.fr
 exact⟨x,hx,r⟩
noncomputable def makeK (C fI : Addr) : Prop:=∀ P,makesIn (K P) C=true∧findIn (K P) (.ref C) "__init__"=some (some (.ref fI))∧typeIn (K P) (.ref fI)=some (.type "function")
theorem S4 {f : Addr}{fd : FuncData}{body : List Stmt}{ps rs : List Str}{xs zs : List Value}{Q : Value→Heap→Prop}(H : Led c env g ns vs as os h) (F : FnK f fd body (ps ++ rs)) (hroom : A.depth < recursionLimit)
 (hb : ∀ k,BindsTo (stt c h k) fd ⟨xs,[]⟩ (ps.zip zs)) (hl : ps.length=zs.length) (hcell : ∀ x∈fd.scope.names,x.2≠.cell)
 (k : ∀ L h₁,Led c (callEnv fd L f) (subB g h env ns vs as) (ps ++ rs) (zs.map some ++ List.replicate rs.length none) as os h₁ →
  W c (A.deeper (callEnv fd L f)) (execs body (callEnv fd L f)) (fun fl h₂=>Q (Js fl) h₂) noX h₁) : CD c A (.call (.ref f) ⟨xs,[]⟩) (Ul Q X) h:=fun kk=>by
 refine codeAny_call_def (s:=stt c h kk) (fd:=fd) (body:=body) (binds:=ps.zip zs) hroom (H.kin _ _ (F.obj _)) rfl (H.bs.lim) (codeRec_of H.kin (F.code _)) F.body (hb kk) hcell (fun x hx=>F.kinds _ (List.mem_append_left _ (List.of_mem_zip hx).1)) (fun h₁ hn hk=>?_) F.co F.gen F.knd
 have L1:=H.enter (F.eo h.objs.size) rfl (by rw[Xi hl F.nd];exact hn) hk
 refine wpAny_mono (k _ _ L1 _) (fun fl s' q=>?_) fun o_ o_ q=>q.2.elim
 cases fl <;> exact q
theorem w_make {C fI : Addr}{rest : List Value}{Q : Value→Heap→Prop}(H : Led c env g ns vs as os h) (k : makeK C fI)
 (q : ∀ dx x h',Led c env g ns vs (as ++ [dx] ++ [x]) (os ++ [atS []] ++ [Sp.ob (Z9 C dx)]) h'→CD c (A.under (.builtin "type.__call__" ⟨.ref C :: rest,[]⟩)) (.call (.ref fI) ⟨.ref x :: rest,[]⟩) (Ul (fun v h''=>v=.none∧Q (.ref x) h'') noX) h') : W c A (call (.ref C) rest) Q X h:=Xy fun kk=>by
 obtain⟨k1,k2,k3⟩:=k c.w.params
 have X:=H.kin
 have H1:=H.alloc (o:=emptyDict) (sp:=atS []) rfl ⟨[],0,rfl,.nil⟩
 have H2:=H1.alloc (o:=instObj C h.objs.size) (sp:=.ob (Z9 C h.objs.size)) rfl rfl
 rw[Heap.size_push] at H2
 refine make_core (makes_of X k1) (looks_findIn X k2) (fun self=>bind_fn X self k3) (.inl rfl) (codeAny_mono (q _ _ _ H2 kk) fun r s' z=>?_)
 cases r with
 | error e=>exact z.2.elim
 | ok f=>cases f <;> first | exact z.2.elim | exact⟨z.2.1,z.1,z.2.2⟩
theorem Uy {x attr : Str}{xp pos : Pos}{v : Value}{Q : Value→Heap→Prop}(H : Led c env g ns vs as os h) (y : EV c A env (.Name x xp) g ns vs as os (·=v)) (q : W c A (getAttr v attr true) Q X h)
 (he : autoParam (eval (.Attribute (.Name x xp) attr pos) env=(do
  let o ← eval (.Name x xp) env
  standAt pos.atName
  let r ← holding [o] (getAttr o attr true)
  letTemporaryGo (.Name x xp) o r
  pure r)) zU) : W c A (eval (.Attribute (.Name x xp) attr pos) env) Q X h:=fun kk =>
 Attribute_Name_ (wpAny_mono (y h H kk) (fun o s1 z=>by
  obtain⟨z1,z2,z3⟩:=z
  subst z3
  rw[z1.eq,z2];exact q _) fun o_ o_ z=>⟨z.1,z.2.elim⟩) he
theorem Z0 {x attr : Str}{xp pos : Pos}{a C dx : Addr}{l : List (Str × Value)}{v : Value}(y : EV c A env (.Name x xp) g ns vs as os (·=.ref a)) (I : Loc g as os a (.ob (Z9 C dx))) (D : Loc g as os dx (atS l)) (k : Jo C attr) (hv : l.lookup attr=some v) (hh : autoParam (handedIn v=true) zR)
 (he : autoParam (eval (.Attribute (.Name x xp) attr pos) env=(do
  let o ← eval (.Name x xp) env
  standAt pos.atName
  let r ← holding [o] (getAttr o attr true)
  letTemporaryGo (.Name x xp) o r
  pure r)) zU) : EV c A env (.Attribute (.Name x xp) attr pos) g ns vs as os (·=v):=fun h H =>
 Uy H y (c_get H I D k hv hh ⟨rfl,rfl⟩) he
theorem Xb {o : Expr}{attr : Str}{pos' pos : Pos}{value : Expr}{rest : List Stmt}{Q : Flow→Heap→Prop}(x : W c A (eval value env) (fun v h₁=>W c A (eval o env) (fun ov h₂=>W c A (setAttr ov attr v) (fun o_ h₃=>W c A (execs rest env) Q X h₃) X h₂) X h₁) X h)
 (hs : autoParam (swapsWith value (some (.Attribute o attr pos')) pos.line env=pure false) zR) : W c A (execs (.Assign [.Attribute o attr pos'] value pos :: rest) env) Q X h:=Yz fun kk =>
 plainObj_wpAny_Assign_Attribute (wpAny_mono (x kk) (fun v s1 q=>wpAny_mono (Zy q.2 q.1) (fun ov s2 q=>Zy q.2 q.1) fun o_ o_ q=>q) fun o_ o_ q=>q) hs
theorem U0 {o : Expr} {attr : Str} {tpos pos : Pos} {op : Operator} {value : Expr} {rest : List Stmt} {Q : Flow → Heap → Prop} (x : W c A (eval o env) (fun ov h₁ => W c A (getAttr ov attr true) (fun old h₂ => W c A (eval value env) (fun v h₃ => W c A (inplaceOp op old v) (fun new h4 =>
      W c A (setAttr ov attr new) (fun o_ h5=>W c A (execs rest env) Q X h5) X h4) X h₃) X h₂) X h₁) X h) : W c A (execs (.AugAssign (.Attribute o attr tpos) op value pos :: rest) env) Q X h:=Yz fun kk =>
 wpAny_AugAssign_AttributeAny (wpAny_mono (x kk) (fun o_ s1 q=>wpAny_mono (Zy q.2 q.1) (fun o_ s2 q=>wpAny_mono (Zy q.2 q.1) (fun o_ s3 q=>wpAny_mono (Zy q.2 q.1) (fun o_ s4 q=>Zy q.2 q.1) fun o_ o_ q=>q) fun o_ o_ q=>q) fun o_ o_ q=>q) fun o_ o_ q=>q)
noncomputable def gsK (C : Addr) (name : Str) (p : Addr) (i : Nat) : Prop:=∀ P,plainGet (K P) C name=true∧isClsIn (K P) C=true∧findIn (K P) (.ref C) name=some (some (.ref p))∧specialIn (K P) (.ref p) "__get__"=some (some (.builtin "member_descriptor.__get__"))∧takesIn (K P) (.ref p)=some true∧slotIn (K P) p C=some i
noncomputable def ssK (C : Addr) (name : Str) (p : Addr) (i : Nat) : Prop:=∀ P,findIn (K P) (.ref C) "__setattr__"=some (some (.builtin "object.__setattr__"))∧plainOver (K P) C=true∧takerIn (K P) C name=some (some (.ref p))∧typeIn (K P) (.ref p)=some (.type "member_descriptor")∧slotIn (K P) p C=some i
noncomputable abbrev Tk (C dx : Addr) (sl : Array (Option Value)) : Obj:=⟨.ref C,some dx,.plain,sl⟩
theorem inst_sl {C x dx : Addr}{sl : Array (Option Value)}{l : List (Str × Value)}(H : Led c env g ns vs as os h) (I : Loc g as os x (.ob (Tk C dx sl))) (D : Loc g as os dx (atS l)) : ∃ od,PySem.W.InstAt h x (Tk C dx sl) C (some od):=by
 obtain⟨ox,e1,rfl⟩:=H.get I
 obtain⟨od,e2,o_⟩:=H.get D
 exact⟨od,⟨e1,rfl,rfl,e2⟩⟩
theorem T9 {C x dx p : Addr}{i : Nat}{sl : Array (Option Value)}{l : List (Str × Value)}{name : Str}{v : Value}{b : Bool}{Q : Value→Heap→Prop}(H : Led c env g ns vs as os h) (I : Loc g as os x (.ob (Tk C dx sl))) (D : Loc g as os dx (atS l)) (k : gsK C name p i) (hv : (sl[i]?).join=some v) (hh : handedIn v=true) (q : Q v h) :
 W c A (getAttr (.ref x) name b) Q X h:=fun kk=>by
 obtain⟨od,I'⟩:=inst_sl H I D
 obtain⟨k1,k2,k3,k4,k5,k6⟩:=k c.w.params
 exact get_slot (s:=stt c h kk) H.fr H.base.kin I' k1 k2 k3 k4 k5 k6 hv hh ⟨⟨rfl,rfl,rfl⟩,q⟩
theorem S3 {C x dx p : Addr}{i j : Nat}{sl : Array (Option Value)}{l : List (Str × Value)}{name : Str}{v : Value}{Q : Unit→Heap→Prop}(H : Led c env g ns vs as os h) (ha : as[j]?=some x) (ho : os[j]?=some (.ob (Tk C dx sl))) (D : Loc g as os dx (atS l)) (k : ssK C name p i) (hi : i < 1000)
 (q : ∀ h',Led c env g ns vs as (os.set j (.ob (Tk C dx ((sl ++ Array.replicate (i + 1 - sl.size) none).setIfInBounds i (some v))))) h'→Q () h') : W c A (setAttr (.ref x) name v) Q X h:=fun kk=>by
 obtain⟨od,I'⟩:=inst_sl H (.ld j ha ho) D
 obtain⟨k1,k2,k3,k4,k5⟩:=k c.w.params
 have hm:=Nd ha
 obtain⟨pre,post,N,n1,n2,fin⟩:=adapt H.fr I'.at_ (fun z=>H.nl (z ▸ hm)) (H.low0 hm)
 refine set_plain (s:=stt c h kk) H.kin I' k1 (osa_descr (s:={ stt c h kk with toks:=kk + 1 }) KF.slot_mset H.kin I' k2 k3 k4 (slot_set (s:={ stt c h kk with toks:=kk + 1 }) H.fr N H.kin I' k5 hi n1 n2 rfl rfl fun h' F' N'=>?_))
 obtain⟨f1,f2,f3⟩:=fin _ h' F' N'
 exact⟨⟨rfl,rfl,rfl⟩,q h' (H.upd2 ha ho f2 f3 ⟨_,f1,rfl⟩)⟩
noncomputable def EI (es : List DictEntry) (l : List (Int × Value)) : Prop:=Paired (fun e p=>e.hash=hashInt p.1∧(∃ t,e.key=.int p.1 t)∧e.val=p.2) es l
noncomputable abbrev dI (l : List (Int × Value)) : Sp:=.pr fun o=>∃ es n,o=dictOf es n∧EI es l
theorem EI.find (k : Int) {es : List DictEntry}{l : List (Int × Value)}(p : EI es l) : (es.find? fun e=>Value.isInt k e.key).map (·.val)=l.lookup k:=by
 induction p with
 | nil=>rfl
 | @cons e q _ _ x _ ih =>
  obtain⟨k',v⟩:=q
  obtain⟨o_,⟨t,hk⟩,hv⟩:=x
  simp only at hk hv
  have hi : Value.isInt k e.key=(k' == k):=by rw[hk];rfl
  simp only[List.find?_cons,hi,List.lookup_cons]
  by_cases hn : k'=k
  ·subst hn;simp[hv]
  ·have h1 : (k' == k)=false:=by simpa using hn
   have h2 : (k == k')=false:=by simpa using Ne.symm hn
   simp only[h1,h2];exact ih
theorem EI.keys {es : List DictEntry}{l : List (Int × Value)}(p : EI es l) (e : DictEntry) (h : e∈es) : ∃ k t,e.key=.int k t∧e.hash=hashInt k:=by
 induction p with
 | nil=>cases h
 | cons x _ ih =>
  rcases List.mem_cons.mp h with rfl | h
  ·obtain⟨h1,⟨t,hk⟩,o_⟩:=x
   exact⟨_,t,hk,h1⟩
  ·exact ih h
theorem Um {d : Addr}{l : List (Int × Value)}(z : At h d (dI l)) : h.IntMap d (fun k=>l.lookup k):=by
 obtain⟨o,e,es,n,rfl,x⟩:=z
 refine⟨_,es.toArray,n,e,rfl,rfl,fun e he=>x.keys e (by simpa using he),fun k=>?_⟩
 unfold findBy
 rw[List.find?_toArray]
 exact x.find k
theorem c_ditem {d : Addr}{l : List (Int × Value)}{k : Int}{t : Tok}{v : Value}{Q : Value→Heap→Prop}(H : Led c env g ns vs as os h) (z : Loc g as os d (dI l)) (hv : l.lookup k=some v) (q : Q v h) : W c A (getItem (.ref d) (.int k t)) Q X h:=fun kk =>
 wpAny_getItem_intMap (s:=stt c h kk) (Um (H.get z)) hv ⟨⟨rfl,rfl,rfl⟩,q⟩
theorem w_tailD {l i : Expr}{d : Addr}{m : List (Int × Value)}{k : Int}{t : Tok}{v : Value}{Q : Value→Heap→Prop}(H : Led c env g ns vs as os h) (z : Loc g as os d (dI m)) (hv : m.lookup k=some v) (q : Q v h)
 (hs : autoParam (subscripted i false (.ref d) (.int k t)=operate [.ref d,.int k t] (getItem (.ref d) (.int k t))) zU) : W c A (subscriptTail l i (.ref d) (.int k t)) Q X h:=fun kk =>
 tail_any (s:=stt c h kk) (Um (H.get z)).typeIs slot_dict_getitem.lookup (c_ditem (A:=A) (X:=X) (t:=t) H z hv q kk) hs
theorem c_dget {d : Addr}{l : List (Int × Value)}{k : Int}{t : Tok}{Q : Value→Heap→Prop}(H : Led c env g ns vs as os h) (z : Loc g as os d (dI l)) (q : Q ((l.lookup k).getD .none) h) : W c A (call (.builtin "dict.get") [.ref d,.int k t]) Q X h:=fun kk=>by
 have hm:=Um (H.get z)
 refine wpAny_call_entry F.slot_dict_get (s:=stt c h kk) hm.typeIs F.entry_dict_get ?_ (F.args_dict_get_2 _ _)
 show wpAny _ _ (dictGet d (.int k t) >>= _) _ _ _
 refine wpAny_bind (wpAny_dictGet_int (s:=stt c h kk) hm ?_)
 cases hf : l.lookup k with
 | some v=>rw[hf] at q;exact wpAny_pure ⟨v,rfl,⟨rfl,rfl,rfl⟩,q⟩
 | none =>
  rw[hf] at q
  show wpAny _ _ (Builtin.Dict.missed d (.int k t) >>= _) _ _ _
  exact wpAny_bind (wpAny_missed_int (wpAny_pure ⟨.none,rfl,⟨rfl,rfl,rfl⟩,q⟩))
theorem c_dset {d : Addr}{l : List (Int × Value)}{k : Int}{t : Tok}{v : Value}{j : Nat}{Q : Unit→Heap→Prop}(H : Led c env g ns vs as os h) (ha : as[j]?=some d) (ho : os[j]?=some (dI l)) (hk : l.lookup k=none) (hz : l.length < 900)
 (q : ∀ h',Led c env g ns vs as (os.set j (dI (l ++ [(k,v)]))) h'→Q () h') : W c A (setItem (.ref d) (.int k t) v) Q X h:=fun kk=>by
 obtain⟨o,e,es,n,rfl,x⟩:=H.at_ j d _ ha ho
 have hm:=Um (H.at_ j d _ ha ho)
 have hlen : es.length=l.length:=x.length
 have hnone : (es.toArray.findIdx? fun e=>Value.isInt k e.key)=none:=by
  have:=x.find k
  rw[hk,Option.map_eq_none_iff,List.find?_eq_none] at this
  rw[Array.findIdx?_eq_none_iff]
  intro e he
  simpa using this e (by simpa using he)
 unfold setItem
 try with_reducible refine wpAny_holding ?_
 first | refine wpAny_bind (wpAny_pure ?_) | skip
 refine wpAny_bind (wpAny_sequenceKey (s:=stt c h kk) hm.typeIs (by decide) ?_)
 refine wpAny_bind (wpAny_callSpecial?_slot (name:=Str.ofString "__setitem__") (s:=stt c h kk) hm.typeIs slot_dict_setitem
  (wpAny_call_entry slot_dict_setitem hm.typeIs entry_dict_setitem ?_ (args_dict_setitem _ _ _)))
 show wpAny _ _ (Builtin.Dict.notOrdered "__setitem__" ⟨[.ref d,.int k t,v],[]⟩ >>= _) _ _ _
 refine wpAny_bind (wpAny_notOrdered_dict (s:=stt c h kk) hm.typeIs ?_)
 show wpAny _ _ (dictSet d (.int k t) v >>= _) _ _ _
 refine wpAny_bind ?_
 unfold dictSet
 try with_reducible refine wpAny_holding ?_
 refine wpAny_bind (wpAny_pyHash_int ?_)
 unfold dictSetHashed
 try with_reducible refine wpAny_holding ?_
 refine wpAny_bind (wpAny_dictFind_int (s:={ stt c h kk with toks:=kk + 1 }) e rfl (fun e he=>x.keys e (by simpa using he)) ?_)
 rw[hnone]
 refine wpAny_bind (wpAny_rule (wpAny_updateDictKeys (hz:=by rw[sizeLine_eq];exact S7 (S9 hlen) (Na (S8 hz (by decide)))) (s:={ stt c h kk with toks:=kk + 1 }) e rfl (wpAny_pure ⟨.none,rfl,wpAny_pure ⟨⟨rfl,rfl,rfl⟩,q _ (H.upd ha ho (Heap.SameBut.update ..) ⟨_,Heap.get?_update_self _ e rfl,es ++ [⟨hashInt k,.int k t,v⟩],n + 1,?_,x.snoc ⟨rfl,⟨t,rfl⟩,rfl⟩⟩)⟩⟩)))
 exact congrArg (fun a=>Obj.mk (.type "dict") none (.dict a (n + 1)) #[]) (List.push_toArray ..)
theorem Loc.sub {a : Addr}{o : Sp}(z : Loc g as os a o) (H : Led c env g ns vs as os h) : Loc (subB g h env ns vs as) as os a o:=by
 cases z with
 | fz e=>exact .fz (e.stay H.stay)
 | ld i e k=>exact .ld i e k
theorem Loc.more {a : Addr}{o : Sp}(z : Loc g as os a o) (r : List Addr) (s : List Sp) : Loc g (as ++ r) (os ++ s) a o:=by
 cases z with
 | fz e=>exact .fz e
 | ld i e k=>exact .ld i (ap e _) (ap k _)
theorem Loc.set {a b : Addr}{o o' : Sp}{j : Nat}(z : Loc g as os a o) (H : Led c env g ns vs as os h) (hb : as[j]?=some b) (hab : a≠b) : Loc g as (os.set j o') a o:=by
 cases z with
 | fz e=>exact .fz e
 | ld i e k=>exact .ld i e (by rw[List.getElem?_set_ne (fun q=>hab (by subst q;rw[hb] at e;cases e;rfl))];exact k)
theorem Led.spec (H : Led c env g ns vs as os h) {j : Nat}{a : Addr}{o o' : Sp}(ha : as[j]?=some a) (ho : os[j]?=some o) (e : At h a o') : Led c env g ns vs as (os.set j o') h:=H.upd ha ho ⟨rfl,fun o_ o_=>rfl⟩ e
noncomputable abbrev fdNI : FuncData:=Xl (me 10 1) "_NodeInfo.__init__" .none (.str "cpy313.graphlib" 330) (.ref 81)
noncomputable abbrev psNI : List PySem.Str:=["self","node"]
theorem F_ni : FnK 82 fdNI (fnB (me 10 1)) (psNI ++ []):=⟨fun P=>by kernel_rfl,fun P=>by kernel_rfl,rfl,by kernel_rfl,dk,dk,dk,rfl,rfl,by kernel_rfl,by kernel_rfl⟩
theorem B_ni (a b : Value) : bindArgs fdNI ⟨[a,b],[]⟩=pure (psNI.zip [a,b]):=by kernel_rfl
theorem ss_node : ssK 86 "node" 87 0:=fun P=>⟨by kernel_rfl,by kernel_rfl,by kernel_rfl,by kernel_rfl,by kernel_rfl⟩
theorem ss_np : ssK 86 "npredecessors" 88 1:=fun P=>⟨by kernel_rfl,by kernel_rfl,by kernel_rfl,by kernel_rfl,by kernel_rfl⟩
theorem ss_sc : ssK 86 "successors" 89 2:=fun P=>⟨by kernel_rfl,by kernel_rfl,by kernel_rfl,by kernel_rfl,by kernel_rfl⟩
theorem gs_node : gsK 86 "node" 87 0:=fun P=>⟨by kernel_rfl,by kernel_rfl,by kernel_rfl,by kernel_rfl,by kernel_rfl,by kernel_rfl⟩
theorem gs_np : gsK 86 "npredecessors" 88 1:=fun P=>⟨by kernel_rfl,by kernel_rfl,by kernel_rfl,by kernel_rfl,by kernel_rfl,by kernel_rfl⟩
theorem gs_sc : gsK 86 "successors" 89 2:=fun P=>⟨by kernel_rfl,by kernel_rfl,by kernel_rfl,by kernel_rfl,by kernel_rfl,by kernel_rfl⟩
noncomputable abbrev niO (dx S : Addr) (node np : Value) : Sp:=.ob (Tk 86 dx #[some node,some np,some (.ref S)])
theorem ni_init {x dx : Addr}{j : Nat}{node : Value}(hA : Rm A 2) (H : Led c env g ns vs as os h) (ha : as[j]?=some x) (ho : os[j]?=some (.ob (Z9 86 dx))) (D : Loc g as os dx (atS [])) (hx : dx≠x) :
 CD c A (.call (.ref 82) ⟨[.ref x,node],[]⟩) (Ul (fun v h'=>v=.none∧∃ S t0,Led c env g ns vs (as ++ [S]) (os.set j (niO dx S node (.int 0 t0)) ++ [Sp.li []]) h') noX) h:=by
 refine J9 ?_
 intro Q'
 refine S4 (ps:=psNI) (rs:=[]) (zs:=[.ref x,node]) H F_ni hA.depth (fun k=>.of_eq (B_ni _ _)) rfl dk fun L h₁ H1=>?_
 have jl:=Zn ho
 have D':=D.sub H
 refine Xb ((Za 1 rfl rfl : EV c _ _ _ _ _ _ _ _ _).eq H1 ((Za 0 rfl rfl : EV c _ _ _ _ _ _ _ _ _).eq H1 (S3 (sl:=#[]) H1 ha ho D' ss_node (by decide) fun h₂ H2=>?_)))
 have e2:=List.getElem?_set_self (a:=Sp.ob (Tk 86 dx #[some node])) jl
 have D2:=D'.set (o':=Sp.ob (Tk 86 dx #[some node])) H1 ha hx
 refine Xb ((ev_i : EV c _ _ _ _ _ _ _ _ _).runI H2 fun t0=>(Za 0 rfl rfl : EV c _ _ _ _ _ _ _ _ _).eq H2 (S3 (sl:=#[some node]) H2 ha e2 D2 ss_np (by decide) fun h₃ H3=>?_))
 rw[List.set_set] at H3
 have e3:=List.getElem?_set_self (a:=Sp.ob (Tk 86 dx #[some node,some (.int 0 t0)])) jl
 have D3:=D'.set (o':=Sp.ob (Tk 86 dx #[some node,some (.int 0 t0)])) H1 ha hx
 refine Xb (Je (Zd ⟨by simp,?_⟩))
 have H4:=H3.newL []
 refine (Za 0 rfl rfl : EV c _ _ _ _ _ _ _ _ _).eq H4 (S3 (sl:=#[some node,some (.int 0 t0)]) H4 (ap ha _) (ap e3 _) (D3.more _ _) ss_sc (by decide) fun h5 H5=>?_)
 rw[Z6 (by simpa using jl),List.set_set] at H5
 refine Zg (fun h6 H6=>?_) h5 H5
 exact⟨rfl,_,t0,H.leave₀ H6⟩
theorem Uq {t : Expr}{b o rest : List Stmt}{p : Pos}{Q : Flow→Heap→Prop}(x : W c A (isTrue t env (eval t env)) (fun d h'=>if d=true then W c A (execs b env) (Ml c A env rest Q X) X h' else W c A (execs o env) (Ml c A env rest Q X) X h') X h) :
 W c A (execs (.If t b o p :: rest) env) Q X h:=Yz fun kk =>
 wpAny_If (wpAny_mono (x kk) (fun v s1 q=>by
  cases v with
  | true=>have q2:=q.2;simp only[if_true] at q2;exact Zy q2 q.1
  | false=>have q2:=q.2;simp only[Bool.false_eq_true,if_false] at q2;exact Zy q2 q.1) fun o_ o_ q=>q)
theorem Yx {l r : Expr}{op : CmpOp}{p : Pos}{Q : Bool→Heap→Prop}(x : W c A (eval l env) (fun a h₁=>W c A (eval r env) (fun b h₂=>W c A (compareOp op a b) (fun v h₃=>W c A (truthy v) Q X h₃) X h₂) X h₁) X h) (hm : autoParam (behindInMarks op r=false) zU) :
 W c A (isTrue (.Compare l [op] [r] p) env (eval (.Compare l [op] [r] p) env)) Q X h:=fun kk =>
 wpAny_isTrue_Compare1 (wpAny_mono (x kk) (fun o_ s1 q=>wpAny_mono (Zy q.2 q.1) (fun o_ s2 q=>wpAny_mono (Zy q.2 q.1) (fun o_ s3 q=>Zy q.2 q.1) fun o_ o_ q=>q) fun o_ o_ q=>q) fun o_ o_ q=>q) hm
theorem c_is {a b : Value}{Q : Value→Heap→Prop}(hp : plainIs a b=true) (q : Q (.bool (a == b)) h) : W c A (compareOp .Is a b) Q X h:=fun kk=>wpAny_is_plain hp ⟨⟨rfl,rfl,rfl⟩,q⟩
theorem Vj {a b : Value}{Q : Value→Heap→Prop}(hp : plainIs a b=true) (q : Q (.bool (!(a == b))) h) : W c A (compareOp .IsNot a b) Q X h:=fun kk=>wpAny_isNot_plain hp ⟨⟨rfl,rfl,rfl⟩,q⟩
theorem Yb {b : Bool}{Q : Bool→Heap→Prop}(q : Q b h) : W c A (truthy (.bool b)) Q X h:=fun kk=>wpAny_truthy_bool ⟨⟨rfl,rfl,rfl⟩,q⟩
theorem w_named {target value : Expr}{pos : Pos}{Q : Value→Heap→Prop}(x : W c A (eval value env) (fun v h₁=>W c A (assign target env v) (fun o_ h₂=>Q v h₂) X h₁) X h) : W c A (eval (.NamedExpr target value pos) env) Q X h:=fun kk =>
 wpAny_NamedExpr (wpAny_mono (x kk) (fun v s1 q=>Zy q.2 q.1) fun o_ o_ q=>q)
theorem w_assign2 {t1 t2 : Expr}{value : Expr}{pos : Pos}{rest : List Stmt}{Q : Flow→Heap→Prop}(x : W c A (eval value env) (fun v h₁=>W c A (assign t1 env v) (fun o_ h₂=>W c A (assign t2 env v) (fun o_ h₃=>W c A (execs rest env) Q X h₃) X h₂) X h₁) X h)
 (hs : autoParam (swapsWithSole [t1,t2] value pos.line env=pure false) zR) (hw : autoParam (swappedStores [t1,t2] value env=pure none) zR) (he : autoParam ((assignEach [t1,t2] env).map (·.2)=[assign t1 env,assign t2 env]) zR) : W c A (execs (.Assign [t1,t2] value pos :: rest) env) Q X h:=Yz fun kk=>by
 rw[exec_Assign]
 refine wpAny_bind (wpAny_standAt ?_)
 rw[hs]
 refine wpAny_bind (wpAny_pure ?_)
 rw[if_neg (by decide)]
 refine wpAny_bind (wpAny_mono (x kk) (fun v s1 q=>?_) fun o_ o_ q=>q)
 rw[hw,he]
 refine wpAny_bind (wpAny_pure ?_)
 show wpAny (mdl c) A (do assignAll v [assign t1 env,assign t2 env];pure Flow.next) _ _ s1
 refine wpAny_bind ?_
 show wpAny (mdl c) A (do holding [v] (assign t1 env v);assign t2 env v) _ _ s1
 refine wpAny_bind (wpAny_holding (wpAny_mono (Zy q.2 q.1) (fun o_ s2 q=>wpAny_mono (Zy q.2 q.1) (fun o_ s3 q=>wpAny_pure q) fun o_ o_ q=>q) fun o_ o_ q=>q))
theorem w_asgSub {o i : Expr}{p : Pos}{v : Value}{Q : Unit→Heap→Prop}(x : W c A (eval o env) (fun ov h₁=>W c A (eval i env) (fun iv h₂=>W c A (setItem ov iv v) Q X h₂) X h₁) X h) : W c A (assign (.Subscript o i p) env v) Q X h:=fun kk=>by
 rw[arm_assign_Subscript]
 refine wpAny_bind (wpAny_holding (wpAny_mono (x kk) (fun ov s1 q=>wpAny_bind (wpAny_holding (wpAny_mono (Zy q.2 q.1) (fun iv s2 q=>wpAny_bind (wpAny_standAt (wpAny_bind (wpAny_holding (wpAny_mono (Zy q.2 q.1) (fun o_ s3 q=>wpAny_release q) fun o_ o_ q=>q))))) fun o_ o_ q=>q))) fun o_ o_ q=>q))
noncomputable abbrev fdGN : FuncData:=Xl (me 12 1) "TopologicalSorter._get_nodeinfo" .none (.str "cpy313.graphlib" 330) (.ref 125)
noncomputable abbrev psGN : List PySem.Str:=["self","node"]
noncomputable abbrev rsGN : List PySem.Str:=["result"]
theorem F_gn : FnK 126 fdGN (fnB (me 12 1)) (psGN ++ rsGN):=⟨fun P=>by kernel_rfl,fun P=>by kernel_rfl,rfl,by kernel_rfl,dk,dk,dk,rfl,rfl,by kernel_rfl,by kernel_rfl⟩
theorem B_gn (a b : Value) : bindArgs fdGN ⟨[a,b],[]⟩=pure (psGN.zip [a,b]):=by kernel_rfl
theorem Vv : Jo 183 "_node2info":=fun P=>⟨by kernel_rfl,by kernel_rfl,none,by kernel_rfl,by kernel_rfl⟩
theorem Me : Jo 183 "_ready_nodes":=fun P=>⟨by kernel_rfl,by kernel_rfl,none,by kernel_rfl,by kernel_rfl⟩
theorem gk_np : Jo 183 "_npassedout":=fun P=>⟨by kernel_rfl,by kernel_rfl,none,by kernel_rfl,by kernel_rfl⟩
theorem gk_nf : Jo 183 "_nfinished":=fun P=>⟨by kernel_rfl,by kernel_rfl,none,by kernel_rfl,by kernel_rfl⟩
theorem sk_n2i : X5 183 "_node2info":=fun P=>⟨by kernel_rfl,by kernel_rfl,by kernel_rfl,by kernel_rfl⟩
theorem sk_rn : X5 183 "_ready_nodes":=fun P=>⟨by kernel_rfl,by kernel_rfl,by kernel_rfl,by kernel_rfl⟩
theorem sk_np : X5 183 "_npassedout":=fun P=>⟨by kernel_rfl,by kernel_rfl,by kernel_rfl,by kernel_rfl⟩
theorem sk_nf : X5 183 "_nfinished":=fun P=>⟨by kernel_rfl,by kernel_rfl,by kernel_rfl,by kernel_rfl⟩
theorem n_ni (P : Params) : nsIn (K P) mainGlobals "_NodeInfo"=some (some (.ref 86)):=by kernel_rfl
theorem k_ni : Jc 86:=fun P=>by kernel_rfl
theorem mk_ni : makeK 86 82:=fun P=>⟨by kernel_rfl,by kernel_rfl,by kernel_rfl⟩
theorem set4 {α : Type}{l : List α}{j : Nat}(h : j < l.length) {y a b d : α} : (l ++ [a] ++ [b] ++ [d]).set j y=l.set j y ++ [a] ++ [b] ++ [d]:=by
 rw[Z6 (by simp;lia),Z6 (by simp;exact Nat.lt_succ_of_lt ‹_›),Z6 h]
theorem gn_hit {x dxS D : Addr}{l : List (Str × Value)}{m : List (Int × Value)}{k : Int}{t : Tok}{N : Addr}(hA : Rm A 5) (H : Led c env g ns vs as os h) (I : Loc g as os x (.ob (Z9 183 dxS))) (DS : Loc g as os dxS (atS l)) (hl : l.lookup (Str.ofString "_node2info")=some (Value.ref D))
 (DD : Loc g as os D (dI m)) (hk : m.lookup k=some (.ref N)) : W c A (call (.ref 126) [.ref x,.int k t]) (fun v h'=>v=.ref N∧Led c env g ns vs as os h') noX h:=by
 refine Zl ?_
 intro Q'
 refine Us H F_gn hA.depth (B_gn _ _) rfl dk fun L h₁ H1=>?_
 have ty:=(Um (H1.get (DD.sub H))).typeIs (s:=stt c h₁ 0)
 obtain⟨od,eD,es,n,rfl,o_⟩:=H1.get (DD.sub H)
 refine Uq (Yx (w_named (Xa H1 (Z0 (Za 0 rfl rfl) (I.sub H) (DS.sub H) Vv hl) F.plainAttrs_dict F.slot_dict_get F.type_dict_get (fun k=>⟨_,eD,rfl⟩) (fun b hb=>by cases hb;exact⟨_,eD,rfl⟩) (Zq H1 (Za 1 rfl rfl) (Zd (c_dget H1 (DD.sub H) ?_))))))
 rw[hk]
 refine Yp 2 rfl rfl H1 fun h₂ H2=>(ev_none : EV c _ _ _ _ _ _ _ _ _).eq H2 (c_is rfl (Yb ?_))
 rw[if_neg (by simp)]
 refine Zg (fun h₃ H3=>?_) h₂ H2
 refine (?_ : SB c _ _ _ _ _ _ _ _ _ _) h₃ H3
 refine Y6 (Za 2 rfl rfl) fun h4 H4 v hv=>⟨hv,H.leave₀ H4⟩
theorem gn_new {x dxS D : Addr}{l : List (Str × Value)}{m : List (Int × Value)}{k : Int}{t : Tok}{jd : Nat}(hA : Rm A 5) (H : Led c env g ns vs as os h) (I : Loc g as os x (.ob (Z9 183 dxS))) (DS : Loc g as os dxS (atS l)) (hl : l.lookup (Str.ofString "_node2info")=some (Value.ref D))
 (hd : as[jd]?=some D) (hod : os[jd]?=some (dI m)) (hk : m.lookup k=none) (hz : m.length < 800) :
 W c A (call (.ref 126) [.ref x,.int k t]) (fun v h'=>∃ dx N S t0,v=.ref N∧Led c env g ns vs (as ++ [dx,N,S]) (os.set jd (dI (m ++ [(k,.ref N)])) ++ [atS [],niO dx S (.int k t) (.int 0 t0),Sp.li []]) h') noX h:=by
 refine Zl ?_
 intro Q'
 refine Us H F_gn hA.depth (B_gn _ _) rfl dk fun L h₁ H1=>?_
 have hA':=hA.deep (callEnv fdGN L 126)
 have DD : Loc (subB g h env ns vs as) as os D (dI m):=.ld jd hd hod
 have jl:=Zn hod
 obtain⟨od,eD,es,n,rfl,o_⟩:=H1.get DD
 refine Uq (Yx (w_named (Xa H1 (Z0 (Za 0 rfl rfl) (I.sub H) (DS.sub H) Vv hl) F.plainAttrs_dict F.slot_dict_get F.type_dict_get (fun k=>⟨_,eD,rfl⟩) (fun b hb=>by cases hb;exact⟨_,eD,rfl⟩) (Zq H1 (Za 1 rfl rfl) (Zd (c_dget H1 DD ?_))))))
 rw[hk]
 refine Yp 2 rfl rfl H1 fun h₂ H2=>(ev_none : EV c _ _ _ _ _ _ _ _ _).eq H2 (c_is rfl (Yb ?_))
 rw[if_pos (by decide)]
 refine w_assign2 (Yl H2 (Xm (by rfl) n_ni) k_ni (Zq H2 (Za 1 rfl rfl) (Zd ⟨H2.kin,w_make H2 mk_ni fun dx N h₃ H3=>?_⟩)))
 have hne : dx≠N:=fun e=>by
  have:=H3.nd
  rw[e] at this
  simp[List.nodup_append] at this
 refine U1 (ni_init (j:=as.length + 1) ((hA'.mono (by decide : 3≤4)).under 86 _ _) H3 (Yy rfl) (by rw[H.len];exact Yy rfl) (.ld as.length (Yh rfl) (Yh H.len)) hne) fun r h4 q=>?_
 cases r with
 | error e=>exact q
 | ok f =>
  cases f with
  | ret v =>
   obtain⟨rfl,S,t0,H4⟩:=q
   refine⟨rfl,?_⟩
   rw[H.len,Vg rfl] at H4
   refine w_asgSub ((Z0 (Za 0 rfl rfl) (((I.sub H).more _ _).more _ _ |>.more _ _) (((DS.sub H).more _ _).more _ _ |>.more _ _) Vv hl : EV c _ _ _ _ _ _ _ _ _).eq H4 ((Za 1 rfl rfl : EV c _ _ _ _ _ _ _ _ _).eq H4 (c_dset (j:=jd) H4 (ap (ap (ap hd _) _) _) (ap (ap (ap hod _) _) _) hk (by exact q1 ‹_› (by decide)) fun h5 H5=>?_)))
   rw[set4 jl] at H5
   refine Yp 2 rfl rfl H5 fun h6 H6=>?_
   refine Zg (fun h7 H7=>?_) h6 H6
   refine (?_ : SB c _ _ _ _ _ _ _ _ _ _) h7 H7
   refine Y6 (Za 2 rfl rfl) fun h8 H8 v hv=>⟨dx,N,S,t0,hv,?_⟩
   have:=H.leave₀ H8
   simpa [List.append_assoc] using this
  | _=>exact q.elim
theorem cd_fnV {f : Addr}{fd : FuncData}{body : List Stmt}{ps rs : List Str}{vr : Str}{xs rest : List Value}{Q : Value→Heap→Prop}(H : Led c env g ns vs as os h) (F : FnK f fd body ((ps ++ [vr]) ++ rs)) (hroom : A.depth < recursionLimit)
 (hb : bindArgs fd ⟨xs ++ rest,[]⟩=(newTuple rest >>= fun t=>pure ((ps ++ [vr]).zip (xs ++ [t])))) (hl : ps.length=xs.length) (hcell : ∀ x∈fd.scope.names,x.2≠.cell) (hz : rest.length≤1000)
 (k : ∀ L T h₀ h₁,Led c env g ns vs (as ++ [T]) (os ++ [Sp.tu rest]) h₀→Led c (callEnv fd L f) (subB g h₀ env ns vs (as ++ [T])) ((ps ++ [vr]) ++ rs) ((xs ++ [Value.ref T]).map some ++ List.replicate rs.length none) (as ++ [T]) (os ++ [Sp.tu rest]) h₁ →
  W c (A.deeper (callEnv fd L f)) (execs body (callEnv fd L f)) (fun fl h₂=>Q (Js fl) h₂) noX h₁) : CD c A (.call (.ref f) ⟨xs ++ rest,[]⟩) (Ul Q X) h:=fun kk=>by
 refine codeAny_call_function (s:=stt c h kk) hroom (H.kin _ _ (F.obj _)) rfl F.co F.gen F.body (codeRec_of H.kin (F.code _)) ?_
 rw[hb]
 have H0:=H.newT rest
 refine wpAny_bind (wpAny_newTuple (s:=stt c h kk) (wpAny_pure ?_) (by rw[sizeLine_eq];exact q4 ‹_› (by decide)))
 refine wpAny_newFunctionEnv (s:=stt c (h.push { cls:=.type "tuple",data:=.seq rest.toArray }) kk) hcell (fun x hx=>F.kinds _ (List.mem_append_left _ (List.of_mem_zip hx).1)) (fun h₁ hn hsb=>⟨H0.bs.lim.fresh _ hsb,codeAny_func ?_⟩) F.knd
 have hk : ∀ b o,(h.push { cls:=.type "tuple",data:=.seq rest.toArray }).get? b=some o→h₁.get? b=some o:=fun b o e=>hsb.extBut b o (Nat.ne_of_lt (Heap.lt_size e)) (Heap.get?_push_of_some _ e)
 have L1:=H0.enter (env':=callEnv fd (h.push { cls:=.type "tuple",data:=.seq rest.toArray }).objs.size f) (F.eo _) rfl (by rw[Xi (xs:=xs ++ [Value.ref h.objs.size]) (by simp[hl]) F.nd];exact hn) hk
 refine wpAny_mono (k _ _ _ _ H0 L1 _) (fun fl s' q=>?_) fun o_ o_ q=>q.2.elim
 cases fl <;> exact q
theorem w_star {e : Expr}{es : List Expr}{pos p : Pos}{Q : List Value→Heap→Prop}(x : W c A (eval e env) (fun v h₁=>Ex5 fun (a : Addr) (l : List Value) (g' : Bas) (as' : List Addr) (os' : List Sp)=>An5 (v=.ref a) (Led c env g' ns vs as' os' h₁) (Loc g' as' os' a (.li l)) (l.length < 1000) (∀ h₂,Led c env g' ns vs as' os' h₂→WS c A env es pos (fun m h₃=>Q (l ++ m) h₃) X h₂)) X h)
 (he : autoParam (starEach (.Starred e p :: es) env=(true,eval e env) :: starEach es env) zR) : WS c A env (.Starred e p :: es) pos Q X h:=fun kk=>by
 refine items_star (wpAny_mono (x kk) (fun v s1 q=>?_) fun o_ o_ q=>q) he
 obtain⟨o1,a,l,g',as',os',rfl,H1,z,hz,q⟩:=q
 rw[o1.eq]
 obtain⟨n,hn⟩:=(H1.get z).li
 have zc:=wpAny_collect_seq (prog:=prg) (w:=c.w) (A:=A) (E:=fun e s'=>Okk c s'∧X e s'.heap) (Q:=fun here s2=>wpAny (mdl c) A (spliced (backTo pos (starEach es env))) (fun vs s3=>Okk c s3∧Q (here ++ vs) s3.heap) (fun e s'=>Okk c s'∧X e s'.heap) s2)
  (s:=stt c s1.heap s1.toks) a (T:="list") (items:=l.toArray) (.inl rfl) hn rfl rfl (fun h' hk=>by rw[show l.toArray.toList=l from rfl];exact q h' (H1.grow hk) s1.toks) (by simp;rw[sizeLine_eq];exact q3 ‹_› (by decide))
 unfold StarOf notIterableAtAll
 exact wpAny_bind (wpAny_specialOf ⟨_,hn,rfl⟩ PySem.F.slot_list_iter.lookup (wpAny_pure ⟨rfl,zc⟩))
noncomputable def Jb (C : Addr) (name : Str) (f : Addr) : Prop:=∀ P,plainGet (K P) C name=true∧findIn (K P) (.ref C) name=some (some (.ref f))∧isFn (K P) (.ref f)=true∧keepIn (K P) (.ref f)=true
theorem Uw {o : Expr}{name : Str}{apos pos : Pos}{e : Expr}{es : List Expr}{x C dx f : Addr}{l : List (Str × Value)}{pl : Sem Bool}{Q : Value→Heap→Prop}(H : Led c env g ns vs as os h) (y : EV c A env o g ns vs as os (·=.ref x)) (I : Loc g as os x (.ob (Z9 C dx))) (D : Loc g as os dx (atS l))
 (k : Jb C name f) (hl : l.lookup name=none) (z : WS c A env (e :: es) pos (fun l h'=>(K c.w.params).In h'∧W c A (call (.ref f) (.ref x :: l)) Q X h') X h)
 (he : autoParam (eval (.Call (.Attribute o name apos) (e :: es) [] pos) env=(do
  let ov ← eval o env
  standAt apos.atName
  let (f,first) ← holding [ov] (getMethod ov name pl)
  callWith pos f first (backTo pos (starEach (e :: es) env)) (backToKw pos (keywordEach [] env)))) zR)
 (he2 : autoParam (starEach (e :: es) env=(false,eval e env) :: starEach es env) zR) (hplain : autoParam ((backTo pos (starEach es env)).any (·.1)=false) zR) :
 W c A (eval (.Call (.Attribute o name apos) (e :: es) [] pos) env) Q X h:=fun kk=>by
 obtain⟨k1,k2,k3,k4⟩:=k c.w.params
 obtain⟨es',n,i,eS,o_⟩:=Uv H I D
 refine methodCall_KW (pl:=pl) (wpAny_mono (y h H kk) (fun ov s1 q=>?_) fun o_ o_ q=>⟨q.1,q.2.elim⟩) he
 obtain⟨q1,q2,q3⟩:=q
 subst q3
 rw[q1.eq,q2]
 refine method_inst (s:=stt c h s1.toks) H.fr H.base.kin i k1 k2 k3 (by rw[eS.getL,hl]) ?_
 exact callWith_K (first:=[.ref x]) H.bs.kin k4 (wpAny_mono (z _) (fun l s2 q2=>⟨q2.2.1,Zy q2.2.2 q2.1⟩) fun o_ o_ q=>q) he2 hplain
theorem Xd {o : Expr}{name : Str}{apos pos : Pos}{x C dx f : Addr}{l : List (Str × Value)}{pl : Sem Bool}{Q : Value→Heap→Prop}(H : Led c env g ns vs as os h) (y : EV c A env o g ns vs as os (·=.ref x)) (I : Loc g as os x (.ob (Z9 C dx))) (D : Loc g as os dx (atS l))
 (k : Jb C name f) (hl : l.lookup name=none) (z : W c A (call (.ref f) [.ref x]) Q X h)
 (he : autoParam (eval (.Call (.Attribute o name apos) [] [] pos) env=(do
  let ov ← eval o env
  standAt apos.atName
  let (f,first) ← holding [ov] (getMethod ov name pl)
  callWith pos f first (backTo pos (starEach [] env)) (backToKw pos (keywordEach [] env)))) zR) :
 W c A (eval (.Call (.Attribute o name apos) [] [] pos) env) Q X h:=fun kk=>by
 obtain⟨k1,k2,k3,k4⟩:=k c.w.params
 obtain⟨es',n,i,eS,o_⟩:=Uv H I D
 refine methodCall_KW (pl:=pl) (wpAny_mono (y h H kk) (fun ov s1 q=>?_) fun o_ o_ q=>⟨q.1,q.2.elim⟩) he
 obtain⟨q1,q2,q3⟩:=q
 subst q3
 rw[q1.eq,q2]
 refine method_inst (s:=stt c h s1.toks) H.fr H.base.kin i k1 k2 k3 (by rw[eS.getL,hl]) ?_
 exact callWith_K0 (first:=[.ref x]) (K:=K c.w.params) H.bs.kin k4 (z _)
theorem c_bound {C x dx f : Addr}{l : List (Str × Value)}{name : Str}{b : Bool}{Q : Value→Heap→Prop}(H : Led c env g ns vs as os h) (I : Loc g as os x (.ob (Z9 C dx))) (D : Loc g as os dx (atS l)) (k : Jb C name f) (hl : l.lookup name=none)
 (hc : ∀ P,hasDictIn (K P) C=true∧specialIn (K P) (.ref f) "__get__"=some (some (.builtin "function.__get__"))∧takesIn (K P) (.ref f)=some false∧copiedNames.contains name=false)
 (q : ∀ r h',Led c env g ns vs (as ++ [r]) (os ++ [Sp.ob (methodObj (.ref f) (.ref x))]) h'→Q (.ref r) h') : W c A (getAttr (.ref x) name b) Q X h:=fun kk=>by
 obtain⟨k1,k2,k3,k4⟩:=k c.w.params
 obtain⟨c1,c2,c3,c4⟩:=hc c.w.params
 obtain⟨es',n,i,eS,o_⟩:=Uv H I D
 have hf : findObj (K c.w.params) C (some (dictOf es' n)) name=some (.bind (.builtin "function.__get__") (.ref f)):=by
  obtain⟨cd,hcd,hd⟩:=any_some c1
  have ho : PySem.W.ownOf cd (some (dictOf es' n)) name=some none:=by unfold PySem.W.ownOf;rw[if_pos hd];show lookIn name (dictOf es' n)=_;rw[lookIn_dict,eS.getL,hl]
  exact Option.bind_eq_some_iff.mpr ⟨cd,hcd,Option.bind_eq_some_iff.mpr ⟨_,k2,Option.bind_eq_some_iff.mpr ⟨_,c2,Option.bind_eq_some_iff.mpr ⟨_,c3,Option.bind_eq_some_iff.mpr ⟨_,ho,if_neg (by rw[c4];exact Bool.false_ne_true)⟩⟩⟩⟩⟩
 refine get_bind (s:=stt c h kk) H.kin i (plainGet_of k1).1 hf (plainGet_of k1).2 (wpAny_call (fn_get (s:={ stt c h kk with toks:=kk + 1 }) H.kin (beq_iff_eq.mp k3) ?_))
 exact handed_on rfl ⟨⟨rfl,rfl,rfl⟩,q _ _ (H.alloc rfl rfl)⟩
theorem w_mcallS {o : Expr}{name : Str}{apos pos : Pos}{e : Expr}{es : List Expr}{x C dx f : Addr}{l : List (Str × Value)}{Q : Value→Heap→Prop}(H : Led c env g ns vs as os h) (y : EV c A env o g ns vs as os (·=.ref x)) (I : Loc g as os x (.ob (Z9 C dx))) (D : Loc g as os dx (atS l))
 (k : Jb C name f) (hl : l.lookup name=none)
 (hc : ∀ P,hasDictIn (K P) C=true∧specialIn (K P) (.ref f) "__get__"=some (some (.builtin "function.__get__"))∧takesIn (K P) (.ref f)=some false∧copiedNames.contains name=false) (hfn : ∀ P,fnIn (K P) f=true)
 (z : ∀ q h₁,Led c env g ns vs (as ++ [q]) (os ++ [Sp.ob (methodObj (.ref f) (.ref x))]) h₁→WS c A env (e :: es) pos (fun l h'=>(K c.w.params).In h'∧h'.get? q=some (methodObj (.ref f) (.ref x))∧CD c A (.call (.ref f) ⟨.ref x :: l,[]⟩) (Ul Q X) h') X h₁)
 (he : autoParam (eval (.Call (.Attribute o name apos) (e :: es) [] pos) env=(do
  let ov ← eval o env
  standAt apos.atName
  let r ← holding [ov] (do pure (← getAttr ov name true,([] : List Value)))
  callWith pos r.1 r.2 (backTo pos (starEach (e :: es) env)) [])) zR)
 (he2 : autoParam (starEach (e :: es) env=(false,eval e env) :: starEach es env) zR) (hst : autoParam ((backTo pos (starEach es env)).any (·.1)=true) zR) :
 W c A (eval (.Call (.Attribute o name apos) (e :: es) [] pos) env) Q X h:=fun kk=>by
 rw[he]
 refine wpAny_bind (wpAny_mono (y h H kk) (fun ov s1 q=>?_) fun o_ o_ q=>⟨q.1,q.2.elim⟩)
 obtain⟨q1,q2,q3⟩:=q
 subst q3
 rw[q1.eq,q2]
 refine wpAny_bind (wpAny_standAt (wpAny_bind (wpAny_holding (wpAny_bind (wpAny_mono (c_bound (X:=X) (Q:=fun v h₁=>∃ q,v=.ref q∧Led c env g ns vs (as ++ [q]) (os ++ [Sp.ob (methodObj (.ref f) (.ref x))]) h₁) H I D k hl hc (fun r h' H'=>⟨r,rfl,H'⟩) s1.toks) (fun v s2 q=>wpAny_pure ?_) fun o_ o_ q=>q)))))
 obtain⟨o2,q,rfl,H2⟩:=q
 rw[o2.eq]
 have hz:=z q s2.heap H2 s2.toks
 show wpAny (mdl c) A (callWith pos (.ref q) [] (backTo pos (starEach (e :: es) env)) []) _ _ _
 rw[he2] at hz ⊢
 refine ks_call (P:=MethP (K c.w.params) q f (.ref x)) (first:=[]) (by show (false || (backTo pos (starEach es env)).any (·.1))=true;rw[hst];rfl) (keeps_M (hfn _)) (Calls.evalArgs_plain (wpAny_mono hz (fun l s3 q=>⟨⟨q.2.2.1,q.2.1⟩,?_⟩) fun o_ o_ q=>q))
 rw[q.1.eq]
 exact wpAny_call (method_call (s:=stt c s3.heap s3.toks) q.2.2.1 (codeAny_mono (q.2.2.2 _) fun r s' w=>by
  cases r with
  | error e=>exact w
  | ok f=>cases f <;> first | exact w.2.elim | exact w))
theorem mk_add : Jb 183 "add" 133:=fun P=>⟨by kernel_rfl,by kernel_rfl,by kernel_rfl,by kernel_rfl⟩
theorem mk_gn : Jb 183 "_get_nodeinfo" 126:=fun P=>⟨by kernel_rfl,by kernel_rfl,by kernel_rfl,by kernel_rfl⟩
theorem mk_prep : Jb 183 "prepare" 138:=fun P=>⟨by kernel_rfl,by kernel_rfl,by kernel_rfl,by kernel_rfl⟩
theorem mk_ready : Jb 183 "get_ready" 145:=fun P=>⟨by kernel_rfl,by kernel_rfl,by kernel_rfl,by kernel_rfl⟩
theorem mk_act : Jb 183 "is_active" 152:=fun P=>⟨by kernel_rfl,by kernel_rfl,by kernel_rfl,by kernel_rfl⟩
theorem mk_done : Jb 183 "done" 166:=fun P=>⟨by kernel_rfl,by kernel_rfl,by kernel_rfl,by kernel_rfl⟩
theorem mk_fc : Jb 183 "_find_cycle" 173:=fun P=>⟨by kernel_rfl,by kernel_rfl,by kernel_rfl,by kernel_rfl⟩
theorem bd_add : ∀ P,hasDictIn (K P) 183=true∧specialIn (K P) (.ref 133) "__get__"=some (some (.builtin "function.__get__"))∧takesIn (K P) (.ref 133)=some false∧copiedNames.contains (Str.ofString "add")=false:=fun P=>⟨by kernel_rfl,by kernel_rfl,by kernel_rfl,by kernel_rfl⟩
structure NR where
 dx : Addr
 N : Addr
 S : Addr
 node : Int
 t : Tok
 np : Int
 u : Tok
 sc : List (Int × Tok)
noncomputable def NR.sp (r : NR) : Sp:=niO r.dx r.S (.int r.node r.t) (.int r.np r.u)
noncomputable def NR.sl (r : NR) : Sp:=.li (r.sc.map fun p=>.int p.1 p.2)
noncomputable def nA (nd : List NR) : List Addr:=nd.flatMap fun r=>[r.dx,r.N,r.S]
noncomputable def nO (nd : List NR) : List Sp:=nd.flatMap fun r=>[atS [],r.sp,r.sl]
noncomputable def nM (nd : List NR) : List (Int × Value):=nd.map fun r=>(r.node,Value.ref r.N)
theorem nA_len (nd : List NR) : (nA nd).length=3 * nd.length:=by
 induction nd with
 | nil=>rfl
 | cons r nd ih=>simp only[nA,List.flatMap_cons,List.length_append,List.length_cons,List.length_nil] at ih ⊢;rw[ih];exact Nat.add_comm 3 _
theorem nO_len (nd : List NR) : (nO nd).length=3 * nd.length:=by
 induction nd with
 | nil=>rfl
 | cons r nd ih=>simp only[nO,List.flatMap_cons,List.length_append,List.length_cons,List.length_nil] at ih ⊢;rw[ih];exact Nat.add_comm 3 _
theorem nA_get {nd : List NR}{i : Nat}{r : NR}(h : nd[i]?=some r) : (nA nd)[3 * i]?=some r.dx∧(nA nd)[3 * i + 1]?=some r.N∧(nA nd)[3 * i + 2]?=some r.S:=by
 induction nd generalizing i with
 | nil=>cases h
 | cons x nd ih=>cases i with
  | zero=>cases h;exact⟨rfl,rfl,rfl⟩
  | succ i=>exact ih (i:=i) h
theorem nO_get {nd : List NR}{i : Nat}{r : NR}(h : nd[i]?=some r) : (nO nd)[3 * i]?=some (atS [])∧(nO nd)[3 * i + 1]?=some r.sp∧(nO nd)[3 * i + 2]?=some r.sl:=by
 induction nd generalizing i with
 | nil=>cases h
 | cons x nd ih=>cases i with
  | zero=>cases h;exact⟨rfl,rfl,rfl⟩
  | succ i=>exact ih (i:=i) h
theorem nO_set1 {nd : List NR}{i : Nat}{r r' : NR}(h : nd[i]?=some r) (e : r'.sl=r.sl) : (nO nd).set (3 * i + 1) r'.sp=nO (nd.set i r'):=by
 induction nd generalizing i with
 | nil=>cases h
 | cons x nd ih=>cases i with
  | zero=>cases h;show _ :: _ :: _ :: _=_ :: _ :: _ :: _;rw[e]
  | succ i=>exact congrArg (fun l=>atS [] :: x.sp :: x.sl :: l) (ih (i:=i) h)
theorem nO_set2 {nd : List NR}{i : Nat}{r r' : NR}(h : nd[i]?=some r) (e : r'.sp=r.sp) : (nO nd).set (3 * i + 2) r'.sl=nO (nd.set i r'):=by
 induction nd generalizing i with
 | nil=>cases h
 | cons x nd ih=>cases i with
  | zero=>cases h;show _ :: _ :: _ :: _=_ :: _ :: _ :: _;rw[e]
  | succ i=>exact congrArg (fun l=>atS [] :: x.sp :: x.sl :: l) (ih (i:=i) h)
theorem nA_set {nd : List NR}{i : Nat}{r r' : NR}(h : nd[i]?=some r) (e1 : r'.dx=r.dx) (e2 : r'.N=r.N) (e3 : r'.S=r.S) : nA (nd.set i r')=nA nd:=by
 induction nd generalizing i with
 | nil=>cases h
 | cons x nd ih=>cases i with
  | zero=>cases h;show _ :: _ :: _ :: _=_ :: _ :: _ :: _;rw[e1,e2,e3]
  | succ i=>exact congrArg (fun l=>x.dx :: x.N :: x.S :: l) (ih (i:=i) h)
theorem nM_set {nd : List NR}{i : Nat}{r r' : NR}(h : nd[i]?=some r) (e1 : r'.node=r.node) (e2 : r'.N=r.N) : nM (nd.set i r')=nM nd:=by
 induction nd generalizing i with
 | nil=>cases h
 | cons x nd ih=>cases i with
  | zero=>cases h;show (r'.node,Value.ref r'.N) :: nM nd=(r.node,Value.ref r.N) :: nM nd;rw[e1,e2]
  | succ i=>exact congrArg (List.cons _) (ih (i:=i) h)
theorem M9 {nd : List NR}{i : Nat}{r : NR}(hn : (nd.map (·.node)).Nodup) (h : nd[i]?=some r) : (nM nd).lookup r.node=some (.ref r.N):=by
 induction nd generalizing i with
 | nil=>cases h
 | cons x nd ih =>
  rw[nM,List.map_cons,List.lookup_cons]
  cases i with
  | zero=>cases h;rw[BEq.rfl]
  | succ i =>
   have h : nd[i]?=some r:=h
   have hn:=List.nodup_cons.mp hn
   rw[beq_eq_false_iff_ne.mpr fun e : r.node=x.node=>hn.1 (by have m : r.node∈nd.map (·.node):=List.mem_map_of_mem (Nd h);rw[e] at m;exact m)]
   exact ih hn.2 h
theorem nM_miss : ∀ {nd : List NR}{k : Int},k ∉ nd.map (·.node)→(nM nd).lookup k=none
 | [],k,_=>rfl
 | x :: nd,k,h=>by
  have ih:=nM_miss (nd:=nd) (k:=k) fun q=>h (.tail _ q)
  have hne : k≠x.node:=fun e=>h (e ▸ .head _)
  have : (k == x.node)=false:=by simpa using hne
  simp only[nM,List.map_cons,List.lookup_cons,this] at ih ⊢
  exact ih
theorem nM_app (nd : List NR) (r : NR) : nM (nd ++ [r])=nM nd ++ [(r.node,.ref r.N)]:=by simp[nM]
theorem nA_app (nd : List NR) (r : NR) : nA (nd ++ [r])=nA nd ++ [r.dx,r.N,r.S]:=by simp[nA]
theorem nO_app (nd : List NR) (r : NR) : nO (nd ++ [r])=nO nd ++ [atS [],r.sp,r.sl]:=by simp[nO]
noncomputable def NR.v (r : NR) : Int × Int × List Int:=(r.node,r.np,r.sc.map (·.1))
noncomputable abbrev fdAD : FuncData:=Xl (me 12 2) "TopologicalSorter.add" .none (.str "cpy313.graphlib" 330) (.ref 132)
noncomputable abbrev psAD : List PySem.Str:=["self","node"]
noncomputable abbrev rsAD : List PySem.Str:=["nodeinfo","pred","pred_info"]
theorem F_ad : FnK 133 fdAD (fnB (me 12 2)) ((psAD ++ [Str.ofString "predecessors"]) ++ rsAD):=⟨fun P=>by kernel_rfl,fun P=>by kernel_rfl,rfl,by kernel_rfl,dk,dk,dk,rfl,rfl,by kernel_rfl,by kernel_rfl⟩
theorem B_ad0 (a b : Value) : bindArgs fdAD ⟨[a,b] ++ [],[]⟩=(newTuple [] >>= fun t=>pure ((psAD ++ [Str.ofString "predecessors"]).zip ([a,b] ++ [t]))):=by kernel_rfl
theorem B_ad1 (a b d : Value) : bindArgs fdAD ⟨[a,b] ++ [d],[]⟩=(newTuple [d] >>= fun t=>pure ((psAD ++ [Str.ofString "predecessors"]).zip ([a,b] ++ [t]))):=by kernel_rfl
theorem Loc.monoG {g g' : Bas}{as : List Addr}{os : List Sp}{a : Addr}{o : Sp}(z : Loc g as os a o) (k : g.hp.StaysIn g'.hp) : Loc g' as os a o:=by
 cases z with
 | fz e=>exact .fz (e.stay k)
 | ld i e h=>exact .ld i e h
structure TSt (g : Bas) (as0 : List Addr) (os0 : List Sp) (x dxS D : Addr) (jd : Nat) (l : List (Str × Value)) : Prop where
 I : ∀ m,Loc g as0 (os0.set jd (dI m)) x (.ob (Z9 183 dxS))
 DS : ∀ m,Loc g as0 (os0.set jd (dI m)) dxS (atS l)
 hl : l.lookup (Str.ofString "_node2info")=some (Value.ref D)
 hd : as0[jd]?=some D
 jl : jd < os0.length
 len : as0.length=os0.length
theorem TSt.mono {g g' : Bas}{as0 : List Addr}{os0 : List Sp}{x dxS D : Addr}{jd : Nat}{l : List (Str × Value)}(z : TSt g as0 os0 x dxS D jd l) (k : g.hp.StaysIn g'.hp) : TSt g' as0 os0 x dxS D jd l:=
 ⟨fun m=>(z.I m).monoG k,fun m=>(z.DS m).monoG k,z.hl,z.hd,z.jl,z.len⟩
noncomputable def U4 (l : List (Int × Int × List Int)) (k : Int) : List (Int × Int × List Int):=if k∈l.map (·.1) then l else l ++ [(k,0,[])]
section
variable {as0 : List Addr} {os0 : List Sp}
theorem J0 (nd : List NR) : (nd.map NR.v).map (·.1)=nd.map (·.node):=by simp[NR.v,Function.comp_def]
theorem gn_any {x dxS D : Addr}{jd : Nat}{l : List (Str × Value)}{nd : List NR}{k : Int}{t : Tok}(hA : Rm A 5) (T : TSt g as0 os0 x dxS D jd l) (hn : (nd.map (·.node)).Nodup) (hz : nd.length < 700) (H : Led c env g ns vs (as0 ++ nA nd) (os0.set jd (dI (nM nd)) ++ nO nd) h) :
 W c A (call (.ref 126) [.ref x,.int k t]) (fun v h'=>Ex3 fun (nd1 : List NR) (i : Nat) (r : NR)=>An6 (v=.ref r.N) (nd1[i]?=some r) (r.node=k) (nd1.map NR.v=U4 (nd.map NR.v) k) ((nd1.map (·.node)).Nodup) (Led c env g ns vs (as0 ++ nA nd1) (os0.set jd (dI (nM nd1)) ++ nO nd1) h')) noX h:=by
 refine Zl ?_
 intro Q'
 have I:=(T.I (nM nd)).more (nA nd) (nO nd)
 have DS:=(T.DS (nM nd)).more (nA nd) (nO nd)
 have hd:=ap T.hd (nA nd)
 have hod : (os0.set jd (dI (nM nd)) ++ nO nd)[jd]?=some (dI (nM nd)):=ap (List.getElem?_set_self T.jl) _
 have hml : (nM nd).length=nd.length:=by simp[nM]
 by_cases hk : k∈nd.map (·.node)
 ·obtain⟨r,hr,rfl⟩:=Ng hk
  obtain⟨i,hi⟩:=List.mem_iff_getElem?.mp hr
  refine Zh (gn_hit hA H I DS T.hl (.ld jd hd hod) (M9 hn hi)) ?_ fun o_ o_ q=>q
  rintro v h' ⟨rfl,H'⟩
  refine⟨nd,i,r,rfl,hi,rfl,?_,hn,H'⟩
  unfold U4;rw[J0,if_pos hk]
 ·refine Zh (gn_new hA H I DS T.hl hd hod (nM_miss hk) (by exact q5 ‹_› ‹_› (by decide))) ?_ fun o_ o_ q=>q
  rintro v h' ⟨dx,N,S,t0,rfl,H'⟩
  refine⟨nd ++ [⟨dx,N,S,k,t,0,t0,[]⟩],nd.length,⟨dx,N,S,k,t,0,t0,[]⟩,rfl,by simp,rfl,?_,?_,?_⟩
  ·unfold U4;rw[J0,if_neg hk];simp[NR.v]
  ·rw[List.map_append,List.nodup_append]
   refine⟨hn,by simp,fun a ha b hb=>?_⟩
   simp at hb;subst hb;exact fun e=>hk (e ▸ ha)
  ·rw[nA_app,nO_app,nM_app,← List.append_assoc,← List.append_assoc]
   rw[Z6 (by simp;exact T.jl),List.set_set] at H'
   exact H'
end
section
variable {as0 : List Addr} {os0 : List Sp}
theorem ev_lenT {f : Str}{fp pos : Pos}{e : Expr}{a : Addr}{xs : List Value}(hf : EV c A env (.Name f fp) g ns vs as os (·=.builtin "len")) (x : EV c A env e g ns vs as os (·=.ref a)) (z : Loc g as os a (.tu xs)) (hz : xs.length < 2 ^ 63)
 (he : autoParam (starEach [e] env=(false,eval e env) :: starEach [] env) zR) : EV c A env (.Call (.Name f fp) [e] [] pos) g ns vs as os (isI xs.length):=by
 refine fun h H=>w_callb H hf (Y5 x Ux he) (fun l q k=>?_) he rfl
 obtain⟨v,l',rfl,rfl,rfl⟩:=q
 exact len_tuple (s:=stt c h k) (H.get z).isTup (by simp;lia) ⟨⟨rfl,rfl,rfl⟩,rfl,_,by simp;rfl⟩
noncomputable def Mm (l : List (Int × Int × List Int)) (k p : Int) : List (Int × Int × List Int):=l.map fun r=>if r.1=p then (r.1,r.2.1,r.2.2 ++ [k]) else r
noncomputable def U5 (l : List (Int × Int × List Int)) (k n : Int) : List (Int × Int × List Int):=l.map fun r=>if r.1=k then (r.1,r.2.1 + n,r.2.2) else r
noncomputable def V2 (l : List (Int × Int × List Int)) (k : Int) (ps : List Int) : List (Int × Int × List Int):=ps.foldl (fun l p=>Mm l k p) (U5 (U4 l k) k ps.length)
theorem scAdd_nodes (l : List (Int × Int × List Int)) (k p : Int) : (Mm l k p).map (·.1)=l.map (·.1):=by
 unfold Mm;rw[List.map_map];refine List.map_congr_left fun r o_=>?_
 simp only[Function.comp];split <;> rfl
theorem Tf (l : List (Int × Int × List Int)) (k n : Int) : (U5 l k n).map (·.1)=l.map (·.1):=by
 unfold U5;rw[List.map_map];refine List.map_congr_left fun r o_=>?_
 simp only[Function.comp];split <;> rfl
theorem Vx (k : Int) : ∀ (ps : List Int) (l : List (Int × Int × List Int)),(ps.foldl (fun l p=>Mm l k p) l).map (·.1)=l.map (·.1)
 | [],l=>rfl
 | p :: ps,l=>by rw[List.foldl_cons,Vx k ps,scAdd_nodes]
theorem Zw {α : Type}{l r : List α}{i : Nat}{a : α}{n : Nat}(hn : n=l.length) (h : r[i]?=some a) : (l ++ r)[n + i]?=some a:=by
 subst hn;rw[List.getElem?_append_right (by with_reducible exact Nat.le_add_right _ _),Nat.add_sub_cancel_left];exact h
theorem U3 {α : Type}{l r : List α}{i : Nat}{a : α}{n : Nat}(hn : n=l.length) : (l ++ r).set (n + i) a=l ++ r.set i a:=by
 subst hn;rw[List.set_append_right _ _ (by with_reducible exact Nat.le_add_right _ _),Nat.add_sub_cancel_left]
theorem map_upd {nd : List NR}{i : Nat}{r r' : NR}{f : Int × Int × List Int→Int × Int × List Int}{k : Int}(hn : (nd.map (·.node)).Nodup) (h : nd[i]?=some r) (hk : r.node=k) (e : r'.v=f r.v) : (nd.set i r').map NR.v=(nd.map NR.v).map fun q=>if q.1=k then f q else q:=by
 induction nd generalizing i with
 | nil=>cases h
 | cons x nd ih=>cases i with
  | zero =>
   have h : x=r:=Option.some.inj h
   subst h;subst hk
   have hx:=(List.nodup_cons.mp hn).1
   simp only[List.set_cons_zero,List.map_cons,e]
   rw[if_pos (show x.v.1=x.node from rfl),List.map_map]
   congr 1
   refine (List.map_congr_left fun y hy=>?_)
   have : y.node≠x.node:=fun q=>by
    have hm : y.node∈nd.map (·.node):=List.mem_map_of_mem hy
    rw[q] at hm;exact hx hm
   exact (if_neg this).symm
  | succ i =>
   have h' : nd[i]?=some r:=h
   have hne : x.node≠k:=fun q=>(List.nodup_cons.mp hn).1 (by
    have : r.node∈nd.map (·.node):=List.mem_map_of_mem (Nd h')
    rw[hk,← q] at this;exact this)
   simp only[List.set_cons_succ,List.map_cons,ih (List.nodup_cons.mp hn).2 h']
   congr 1
   exact (if_neg hne).symm
theorem node_set {nd : List NR}{i : Nat}{r r' : NR}(h : nd[i]?=some r) (e : r'.node=r.node) : (nd.set i r').map (·.node)=nd.map (·.node):=by
 rw[List.map_set,e,Xh];simp[h]
theorem add_cd {x dxS D : Addr}{jd : Nat}{l : List (Str × Value)}{nd : List NR}{k : Int}{t : Tok}{ps : List (Int × Tok)}(hA : Rm A 8) (hh : A.handled=none) (T : TSt g as0 os0 x dxS D jd l) (hr : l.lookup (Str.ofString "_ready_nodes")=some Value.none) (hno : l.lookup (Str.ofString "_get_nodeinfo")=none)
 (hn : (nd.map (·.node)).Nodup) (hz : nd.length < 600) (hp : ∀ p∈ps,p.1∈nd.map (·.node)) (hpl : ps.length≤1) (hsc : ∀ r∈nd,r.sc.length < 500) (H : Led c env g ns vs (as0 ++ nA nd) (os0.set jd (dI (nM nd)) ++ nO nd) h) :
 CD c A (.call (.ref 133) ⟨[.ref x,.int k t] ++ ps.map (fun p=>.int p.1 p.2),[]⟩) (Ul (fun v h'=>v=.none∧∃ nd' : List NR,nd'.map NR.v=V2 (nd.map NR.v) k (ps.map (·.1))∧(nd'.map (·.node)).Nodup∧Led c env g ns vs (as0 ++ nA nd') (os0.set jd (dI (nM nd')) ++ nO nd') h') noX) h:=by
 refine J9 ?_
 intro Q'
 refine cd_fnV (ps:=psAD) (vr:=Str.ofString "predecessors") (rs:=rsAD) (xs:=[.ref x,.int k t]) H F_ad hA.depth ?_ rfl dk (by simp;exact q4 ‹_› (by decide)) fun L Tt h₀ h₁ H0 H1=>?_
 ·match ps,hpl with
  | [],_=>exact B_ad0 _ _
  | [p],_=>exact B_ad1 _ _ _
 have hA':=hA.deep (callEnv fdAD L 133)
 obtain⟨g',s1,s2,H2,zT⟩:=H1.solid
 have T' : TSt g' as0 os0 x dxS D jd l:=T.mono (Zc H0.stay s1)
 have I:=(T'.I (nM nd)).more (nA nd) (nO nd)
 have DS:=(T'.DS (nM nd)).more (nA nd) (nO nd)
 refine Uq (Yx ((Z0 (Za 0 rfl rfl) I DS Me hr : EV c _ _ _ _ _ _ _ _ _).eq H2 ((ev_none : EV c _ _ _ _ _ _ _ _ _).eq H2 (Vj rfl (Yb ?_)))))
 rw[if_neg (by decide)]
 refine Zg (fun h₃ H3=>?_) h₁ H2
 refine Zz (Uw H3 (Za 0 rfl rfl) I DS mk_gn hno (Zq H3 (Za 1 rfl rfl) (Zd ⟨H3.kin,Zh (gn_any (hA'.mono (by decide)) T' hn (by exact q1 ‹_› (by decide)) H3) ?_ (fun o_ o_ q=>q)⟩)))
 rintro o_ h4 ⟨nd1,i,r,rfl,hi,hk,hv,hn1,H4⟩
 refine Zp (v0:=none) 3 rfl rfl H4 fun h5 H5=>?_
 have e0 : as0.length=(os0.set jd (dI (nM nd1))).length:=by rw[List.length_set];exact T.len
 have lc0 : ∀ {nd1 : List NR}{i : Nat}{r : NR},nd1[i]?=some r→(as0 ++ nA nd1)[as0.length + (3 * i + 1)]?=some r.N∧(os0.set jd (dI (nM nd1)) ++ nO nd1)[as0.length + (3 * i + 1)]?=some r.sp∧Loc g' (as0 ++ nA nd1) (os0.set jd (dI (nM nd1)) ++ nO nd1) r.dx (atS []) ∧
  (as0 ++ nA nd1)[as0.length + (3 * i + 2)]?=some r.S∧(os0.set jd (dI (nM nd1)) ++ nO nd1)[as0.length + (3 * i + 2)]?=some r.sl:=fun {nd1 i r} hi=>by
  obtain⟨a0,a1,a2⟩:=nA_get hi
  obtain⟨b0,b1,b2⟩:=nO_get hi
  have e0 : as0.length=(os0.set jd (dI (nM nd1))).length:=by rw[List.length_set];exact T.len
  exact⟨Zw rfl a1,Zw e0 b1,.ld (as0.length + 3 * i) (Zw rfl a0) (Zw e0 b0),Zw rfl a2,Zw e0 b2⟩
 obtain⟨p1,p2,p3,-,-⟩:=lc0 hi
 refine U0 ((Za 3 rfl rfl : EV c _ _ _ _ _ _ _ _ _).eq H5 (T9 H5 (.ld _ p1 p2) p3 gs_np rfl rfl ((ev_lenT (Zr (by rfl) Uf boot_len) (Za 2 rfl rfl) (.fz zT) (by simp;exact q2 ‹_› (by decide)) : EV c _ _ _ _ _ _ _ _ _).runI H5 fun t1 kk=>?_)))
 refine PyProof.Rows.iadd_int (s:=stt c h5 kk) ⟨⟨rfl,rfl,rfl⟩,?_⟩
 refine S3 (j:=as0.length + (3 * i + 1)) H5 p1 p2 p3 ss_np (by decide) fun h6 H6=>?_
 obtain⟨r2,hr2,f1,f2,f3,f4,f5,f6⟩ : Ex1 fun r2 : NR=>An7 (r2={ r with np:=r.np + ((ps.map fun p=>Value.int p.1 p.2).length : Int),u:=kk }) (r2.node=r.node) (r2.N=r.N) (r2.S=r.S) (r2.dx=r.dx) (r2.sl=r.sl) (r2.v=(r.v.1,r.v.2.1 + ((ps.map (·.1)).length : Int),r.v.2.2)):=⟨_,rfl,rfl,rfl,rfl,rfl,rfl,by simp[NR.v]⟩
 have H7 : Led c (callEnv fdAD L 133) g' ((psAD ++ [Str.ofString "predecessors"]) ++ rsAD) [some (.ref x),some (.int k t),some (.ref Tt),some (.ref r.N),none,none] (as0 ++ nA nd1) ((os0.set jd (dI (nM nd1)) ++ nO nd1).set (as0.length + (3 * i + 1)) r2.sp) h6:=by subst hr2;exact H6
 rw[U3 e0,nO_set1 hi f5,← nA_set (r':=r2) hi f4 f2 f3,← nM_set (r':=r2) hi f1 f2] at H7
 have hn2 : ((nd1.set i r2).map (·.node)).Nodup:=by rw[node_set hi f1];exact hn1
 have hv2 : (nd1.set i r2).map NR.v=U5 (U4 (nd.map NR.v) k) k (ps.map (·.1)).length:=by
  unfold U5
  rw[← hv]
  exact map_upd (f:=fun q=>(q.1,q.2.1 + ((ps.map (·.1)).length : Int),q.2.2)) hn1 hi hk f6
 clear hr2 f1 f2 f3 f4 f5 f6
 generalize nd1.set i r2=nd2 at H7 hn2 hv2
 refine (?_ : SB c _ _ _ _ _ _ _ _ _ _) h6 H7
 refine X9 (fun h'=>Ex3 fun (nd3 : List NR) (a b : Option Value)=>An3 (nd3.map NR.v=V2 (nd.map NR.v) k (ps.map (·.1))) ((nd3.map (·.node)).Nodup) (Led c (callEnv fdAD L 133) g' ((psAD ++ [Str.ofString "predecessors"]) ++ rsAD) [some (.ref x),some (.int k t),some (.ref Tt),some (.ref r.N),a,b] (as0 ++ nA nd3) (os0.set jd (dI (nM nd3)) ++ nO nd3) h')) ?_ ?_
 intro F'
 refine fun h' H'=>(Za 2 rfl rfl : EV c _ _ _ _ _ _ _ _ _).eq H' (Vl H' (.fz zT) fun it h'' H''=>?_)
 ·refine⟨it,(ps.map fun p=>Value.int p.1 p.2).length,fun j=>.itT Tt j,fun j v=>(ps.map fun p=>Value.int p.1 p.2)[j]?=some v,fun g=>At g Tt (.tu (ps.map fun p=>Value.int p.1 p.2)),
   fun j g'' vs'' as'' os''=>Ex3 fun (nd3 : List NR) (a b : Option Value)=>An6 (g''=g') (nd3.map NR.v=((ps.take j).map (·.1)).foldl (fun l p=>Mm l k p) (U5 (U4 (nd.map NR.v) k) k (ps.map (·.1)).length)) ((nd3.map (·.node)).Nodup) (vs''=[some (.ref x),some (.int k t),some (.ref Tt),some (.ref r.N),a,b]) (as''=as0 ++ nA nd3) (os''=os0.set jd (dI (nM nd3)) ++ nO nd3),
   rfl,Jn (show (A.deeper (callEnv fdAD L 133)).handled=none from hh),⟨_,_,_,_,⟨nd2,none,none,rfl,hv2,hn2,rfl,rfl,rfl⟩,H''⟩,by rintro _ _ _ _ _ ⟨_,_,_,e,_⟩;exact e ▸ zT,?_,?_⟩
  ·rintro J' j QL o_ o_ o_ o_ v h7 hj ⟨nd3,a,b,rfl,f1,f2,rfl,rfl,rfl⟩ hv3 H7
   refine H7.lv ?_
   intro vl H7
   obtain⟨p,hp1,rfl⟩ : ∃ p,ps[j]?=some p∧v=.int p.1 p.2:=by
    rw[List.getElem?_map] at hv3
    obtain⟨p,e1,e2⟩:=Option.map_eq_some_iff.mp hv3
    exact⟨p,e1,e2.symm⟩
   have hmem : p.1∈nd3.map (·.node):=by
    rw[← J0,f1,Vx,Tf]
    have:=hp p (Nd hp1)
    rw[← J0] at this
    unfold U4;split
    ·exact this
    ·rw[List.map_append];exact List.mem_append_left _ this
   obtain⟨rp,hrp,hrn⟩:=Ng hmem
   obtain⟨i3,hi3⟩:=List.mem_iff_getElem?.mp hrp
   have j0 : j=0:=by simp at hj;lia
   subst j0
   have hs3 : rp.sc.length < 500:=by
    have hm : rp.v∈nd3.map NR.v:=List.mem_map_of_mem hrp
    rw[f1] at hm
    simp only[List.take_zero,List.map_nil,List.foldl_nil] at hm
    obtain⟨q,hq,e⟩:=Ng hm
    have e2 : q.2.2=rp.sc.map (·.1):=by
     have:=congrArg (fun z : Int × Int × List Int=>z.2.2) e
     by_cases hqk : q.1=k
     ·rw[if_pos hqk] at this;exact this
     ·rw[if_neg hqk] at this;exact this
    have hl : rp.sc.length=q.2.2.length:=by rw[e2];simp
    rw[hl]
    unfold U4 at hq
    have old : q∈nd.map NR.v→q.2.2.length < 500:=fun z=>by
     obtain⟨r0,hr0,rfl⟩:=Ng z
     have:=hsc r0 hr0
     simpa [NR.v] using this
    split at hq
    ·exact old hq
    ·rcases Nh hq with z | z
     ·exact old z
     ·simp at z;subst z;simp
   obtain⟨w1,w2,w3,w4,w5⟩:=lc0 hi3
   have I3:=((T'.I (nM nd3)).more (nA nd3) (nO nd3)).more [it] [Sp.itT Tt (0 + 1)]
   have DS3:=((T'.DS (nM nd3)).more (nA nd3) (nO nd3)).more [it] [Sp.itT Tt (0 + 1)]
   refine Yp 4 rfl rfl H7 fun h8 H8=>?_
   refine Zz (Uw H8 (Za 0 rfl rfl) I3 DS3 mk_gn hno (Zq H8 (Za 4 rfl rfl) (Zd ⟨H8.kin,Zh (gn_hit (hA'.mono (by decide)) H8 I3 DS3 T'.hl (.ld jd (ap (ap T'.hd _) _) (ap (ap (List.getElem?_set_self T'.jl) _) _)) (hrn ▸ M9 f2 hi3)) ?_ (fun o_ o_ q=>q)⟩)))
   rintro o_ h9 ⟨rfl,H9⟩
   refine Zp 5 rfl rfl H9 fun h10 H10=>?_
   have hd10:=H10.hd (ap w4 _) (ap w5 _)
   refine Yj (Xa H10 (v:=.ref rp.S) (fun h H=>Uy H (Za 5 rfl rfl) (T9 H (.ld _ (ap w1 _) (ap w2 _)) (w3.more _ _) gs_sc rfl rfl ⟨rfl,rfl⟩)) F.plainAttrs_list F.slot_list_append F.type_list_append hd10.1 hd10.2 (Zq H10 (Za 1 rfl rfl) (Zd (X8 H10 (ap w4 _) (ap w5 _) (by simp;rw[sizeLine_eq];exact q3 ‹_› (by decide)) fun h11 H11=>?_))))
   refine Zg (fun h12 H12=>?_) h11 H11
   have e3 : as0.length=(os0.set jd (dI (nM nd3))).length:=by rw[List.length_set];exact T.len
   obtain⟨r4,hr4⟩ : ∃ r4 : NR,r4={ rp with sc:=rp.sc ++ [(k,t)] }:=⟨_,rfl⟩
   rw[Z6 (Zn w5),show Sp.li (rp.sc.map (fun p=>Value.int p.1 p.2) ++ [.int k t])=r4.sl by subst hr4;simp[NR.sl],U3 e3,nO_set2 hi3 (by subst hr4;rfl),← nA_set (r':=r4) hi3 (by subst hr4;rfl) (by subst hr4;rfl) (by subst hr4;rfl),← nM_set (r':=r4) hi3 (by subst hr4;rfl) (by subst hr4;rfl)] at H12
   refine⟨_,_,_,_,⟨nd3.set i3 r4,_,_,rfl,?_,by rw[node_set hi3 (by subst hr4;rfl)];exact f2,rfl,rfl,rfl⟩,H12⟩
   rw[List.take_add_one,hp1]
   simp only[List.take_zero,List.nil_append,Option.toList_some,List.map_cons,List.map_nil,List.foldl_cons,List.foldl_nil]
   simp only[List.take_zero,List.map_nil,List.foldl_nil] at f1
   rw[← f1]
   exact map_upd (f:=fun q=>(q.1,q.2.1,q.2.2 ++ [k])) f2 hi3 hrn (by subst hr4;simp[NR.v])
  ·rintro o_ o_ o_ o_ h7 ⟨nd3,a,b,rfl,f1,f2,rfl,rfl,rfl⟩ H7
   refine⟨nd3,a,b,?_,f2,H7⟩
   rw[show (ps.map fun p=>Value.int p.1 p.2).length=ps.length by simp,List.take_length] at f1
   exact f1
 ·rintro h' ⟨nd3,a,b,f1,f2,H'⟩
  refine Zg (fun h'' H''=>⟨rfl,nd3,f1,f2,?_⟩) h' H'
  have:=H0.leave H'' s1 s2
  exact this.1.weaken (g':=g) H.low this.2 rfl
end
noncomputable abbrev fdTI : FuncData:=Xl (me 12 0) "TopologicalSorter.__init__" (.ref 112) (.str "cpy313.graphlib" 330) (.ref 118)
noncomputable abbrev psTI : List PySem.Str:=["self","graph"]
noncomputable abbrev rsTI : List PySem.Str:=["node","predecessors"]
theorem F_ti : FnK 119 fdTI (fnB (me 12 0)) (psTI ++ rsTI):=⟨fun P=>by kernel_rfl,fun P=>by kernel_rfl,rfl,by kernel_rfl,dk,dk,dk,rfl,rfl,by kernel_rfl,by kernel_rfl⟩
theorem B_ti {s : Shared}{P : Params}(X : (K P).In s.heap) (a : Value) : BindsTo s fdTI ⟨[a],[]⟩ (psTI.zip [a,.none]):=
 binds_K (K:=K P) (T:=112) (o:=o112 P) (items:=#[.none]) (n:=0) X rfl (by kernel_rfl) rfl rfl rfl
noncomputable abbrev tsA (D : Addr) (r p f : Value) : List (Str × Value):=[(Str.ofString "_node2info",.ref D),(Str.ofString "_ready_nodes",r),(Str.ofString "_npassedout",p),(Str.ofString "_nfinished",f)]
theorem J3 (n : Str) (v : Value) : ∀ l : List (Str × Value),(Xx n v l).length≤l.length + 1
 | []=>by simp[Xx]
 | p :: r=>by have:=J3 n v r;simp only[Xx];split <;> simp <;> assumption
theorem Led.far (H : Led c env g ns vs as os h) : (h.objs.size == sysModules)=false:=by
 obtain⟨mg,hg⟩:=H.base.gl
 have h1 : mainGlobals < c.b.objs.size:=hg.lt
 have h2:=H.fr.above
 have h3:=H.fr.ns.lt
 have h4 : 3 < h.objs.size:=S8 (S6 h1 h2) h3
 have : h.objs.size≠sysModules:=fun e=>by rw[e] at h4;exact absurd h4 (by decide)
 simpa using this
theorem w_dict0 {pos : Pos}{Q : Value→Heap→Prop}(H : Led c env g ns vs as os h) (k : ∀ D h',(D == sysModules)=false→Led c env g ns vs (as ++ [D]) (os ++ [dI []]) h'→Q (.ref D) h') : W c A (eval (.Dict [] [] pos) env) Q X h:=fun kk =>
 wpAny_Dict_empty (s:=stt c h kk) ⟨⟨rfl,rfl,rfl⟩,k _ _ H.far (H.alloc rfl ⟨[],0,rfl,.nil⟩)⟩
theorem ts_init {x dx : Addr}{j : Nat}(hA : Rm A 2) (H : Led c env g ns vs as os h) (ha : as[j]?=some dx) (ho : os[j]?=some (atS [])) (I : Loc g as os x (.ob (Z9 183 dx))) (hx : x≠dx) :
 CD c A (.call (.ref 119) ⟨[.ref x],[]⟩) (Ul (fun v h'=>v=.none∧∃ D t1 t2,(D == sysModules)=false∧Led c env g ns vs (as ++ [D]) (os.set j (atS (tsA D .none (.int 0 t1) (.int 0 t2))) ++ [dI []]) h') noX) h:=by
 refine J9 ?_
 intro Q'
 refine S4 (ps:=psTI) (rs:=rsTI) (zs:=[.ref x,.none]) H F_ti hA.depth (fun k=>B_ti (P:=c.w.params) H.kin _) rfl dk fun L h₁ H1=>?_
 have jl:=Zn ho
 refine Xb (w_dict0 H1 fun D h₂ hD H2=>(Za 0 rfl rfl : EV c _ _ _ _ _ _ _ _ _).eq H2 (Ue (j:=j) H2 ((I.sub H).more _ _) (ap ha _) (ap ho _) sk_n2i (by simp) fun h₃ H3=>?_))
 have I2 : ∀ sp,Loc (subB g h env ns vs as) (as ++ [D]) ((os ++ [dI []]).set j sp) x (.ob (Z9 183 dx)):=fun sp=>((I.sub H).more _ _).set H2 (ap ha _) hx
 have o2 : ∀ sp,((os ++ [dI []]).set j sp)[j]?=some sp:=fun sp=>List.getElem?_set_self (by simp;exact Nat.lt_succ_of_lt ‹_›)
 refine Xb ((ev_none : EV c _ _ _ _ _ _ _ _ _).eq H3 ((Za 0 rfl rfl : EV c _ _ _ _ _ _ _ _ _).eq H3 (Ue (j:=j) H3 (I2 _) (ap ha _) (o2 _) sk_rn (by simp[Xx]) fun h4 H4=>?_)))
 rw[List.set_set] at H4
 refine Xb ((ev_i : EV c _ _ _ _ _ _ _ _ _).runI H4 fun t1=>(Za 0 rfl rfl : EV c _ _ _ _ _ _ _ _ _).eq H4 (Ue (j:=j) H4 (I2 _) (ap ha _) (o2 _) sk_np (by simp[Xx];split <;> simp) fun h5 H5=>?_))
 rw[List.set_set] at H5
 refine Xb ((ev_i : EV c _ _ _ _ _ _ _ _ _).runI H5 fun t2=>(Za 0 rfl rfl : EV c _ _ _ _ _ _ _ _ _).eq H5 (Ue (j:=j) H5 (I2 _) (ap ha _) (o2 _) sk_nf (S5 (S7 (J3 ..) (Nat.succ_le_succ (S7 (J3 ..) (Nat.succ_le_succ (J3 ..))))) (by decide)) fun h6 H6=>?_))
 rw[List.set_set] at H6
 refine Uq (Yx ((Za 1 rfl rfl : EV c _ _ _ _ _ _ _ _ _).eq H6 ((ev_none : EV c _ _ _ _ _ _ _ _ _).eq H6 (Vj rfl (Yb ?_)))))
 rw[if_neg (by decide)]
 refine Zg (fun h7 H7=>?_) h6 H6
 refine Zg (fun h8 H8=>⟨rfl,D,t1,t2,hD,?_⟩) h7 H7
 have:=H.leave₀ H8
 rw[Z6 jl] at this
 have e : Xx (Str.ofString "_nfinished") (.int 0 t2) (Xx (Str.ofString "_npassedout") (.int 0 t1) (Xx (Str.ofString "_ready_nodes") .none (Xx (Str.ofString "_node2info") (.ref D) [])))=tsA D .none (.int 0 t1) (.int 0 t2):=by kernel_rfl
 rw[e] at this
 exact this
theorem bool_list (l : Addr) (items : Array Value) (n : Nat) (hfit : (items.size : Int) < 2 ^ 63) :
 Meets (Builtin.«bool.__new__» ⟨[.type "bool",.ref l],[]⟩) (fun o_ R s=>s.heap.get? l=some (listOf items n)∧∀ tk,R (.ok (.ret (.bool (!items.isEmpty)))) { s with toks:=tk }):=
 Meets.of_wp fun prog w A R s hs=>by
  obtain⟨hp,g,d,tk,os⟩:=s
  obtain⟨hl,hs⟩:=hs
  have f1:=F.conv_sub_bool
  have tr : ∀ (B : Around) (Q : Bool→Shared→Prop) (E : Value→Shared→Prop),(Q (!items.isEmpty) ⟨hp,g,d,tk + 1 + 1,os⟩)→wpAny (model prog w) B (truthy (.ref l)) Q E ⟨hp,g,d,tk,os⟩:=fun B Q E h =>
   wpAny_truthy_list (s:=⟨hp,g,d,tk,os⟩) ⟨_,hl,rfl,n,rfl⟩ hfit h
  repeat (any_goals (first | assumption | (with_reducible refine tr _ _ _ ?_) | wp_step))
  all_goals exact⟨_,rfl,hs _⟩
noncomputable abbrev fdAC : FuncData:=Xl (me 12 5) "TopologicalSorter.is_active" .none (.str "cpy313.graphlib" 330) (.ref 151)
noncomputable abbrev psAC : List PySem.Str:=["self"]
theorem F_ac : FnK 152 fdAC (fnB (me 12 5)) (psAC ++ []):=⟨fun P=>by kernel_rfl,fun P=>by kernel_rfl,rfl,by kernel_rfl,dk,dk,dk,rfl,rfl,by kernel_rfl,by kernel_rfl⟩
theorem B_ac (a : Value) : bindArgs fdAC ⟨[a],[]⟩=pure (psAC.zip [a]):=by kernel_rfl
theorem n_bool (P : Params) : nsIn (K P) mainGlobals "bool"=some none:=by kernel_rfl
theorem w_or2 {e1 e2 : Expr}{pos : Pos}{Q : Value→Heap→Prop}(x : W c A (eval e1 env) (fun v h₁=>W c A (truthy v) (fun b h₂=>if b=true then Q v h₂ else W c A (eval e2 env) Q X h₂) X h₁) X h) : W c A (eval (.BoolOp .Or [e1,e2] pos) env) Q X h:=fun kk =>
 BoolOp_or (wpAny_mono (x kk) (fun v s1 q=>wpAny_mono (Zy q.2 q.1) (fun b s2 q=>by
  cases b with
  | true=>have q2:=q.2;simp only[if_true] at q2 ⊢;exact⟨q.1,q2⟩
  | false=>have q2:=q.2;simp only[Bool.false_eq_true,if_false] at q2 ⊢;exact BoolOp_one (Zy q2 q.1)) fun o_ o_ q=>q) fun o_ o_ q=>q)
theorem w_cmp {l r : Expr}{op : CmpOp}{p : Pos}{Q : Value→Heap→Prop}(x : W c A (eval l env) (fun a h₁=>W c A (eval r env) (fun b h₂=>W c A (compareOp op a b) Q X h₂) X h₁) X h) (hm : autoParam (behindInMarks op r=false) zU) :
 W c A (eval (.Compare l [op] [r] p) env) Q X h:=fun kk =>
 wpAny_Compare1 (wpAny_mono (x kk) (fun o_ s1 q=>wpAny_mono (Zy q.2 q.1) (fun o_ s2 q=>Zy q.2 q.1) fun o_ o_ q=>q) fun o_ o_ q=>q) hm
theorem c_boolL {a : Addr}{l : List Value}{Q : Value→Heap→Prop}(H : Led c env g ns vs as os h) (z : Loc g as os a (.li l)) (hz : l.length < 2 ^ 63) (q : Q (.bool (!l.isEmpty)) h) : W c A (call (.type "bool") [.ref a]) Q X h:=fun kk=>by
 obtain⟨n,hn⟩:=(H.get z).li
 refine call_bool_1 (s:=stt c h kk) (bool_list a l.toArray n (by simp;lia)) ⟨hn,fun tk=>⟨rfl,⟨rfl,rfl,rfl⟩,?_⟩⟩
 rw[show l.toArray.isEmpty=l.isEmpty by simp]
 exact q
theorem active_ok {x dxS R : Addr}{l : List (Str × Value)}{rs : List Value}{p f : Int}{t1 t2 : Tok}(hA : Rm A 3) (H : Led c env g ns vs as os h) (I : Loc g as os x (.ob (Z9 183 dxS))) (DS : Loc g as os dxS (atS l)) (h1 : l.lookup (Str.ofString "_ready_nodes")=some (Value.ref R))
 (h2 : l.lookup (Str.ofString "_npassedout")=some (Value.int p t1)) (h3 : l.lookup (Str.ofString "_nfinished")=some (Value.int f t2)) (hR : Loc g as os R (.li rs)) (hz : rs.length < 1000) :
 W c A (call (.ref 152) [.ref x]) (fun v h'=>v=.bool (decide (f < p) || !rs.isEmpty)∧Led c env g ns vs as os h') noX h:=by
 refine Zl ?_
 intro Q'
 refine Us H F_ac hA.depth (B_ac _) rfl dk fun L h₁ H1=>?_
 have I':=I.sub H
 have DS':=DS.sub H
 refine Uq (Yx ((Z0 (Za 0 rfl rfl) I' DS' Me h1 : EV c _ _ _ _ _ _ _ _ _).eq H1 ((ev_none : EV c _ _ _ _ _ _ _ _ _).eq H1 (c_is rfl (Yb ?_)))))
 rw[if_neg (by simp)]
 refine Zg (fun h₂ H2=>?_) h₁ H1
 refine (?_ : SB c _ _ _ _ _ _ _ _ _ _) h₂ H2
 refine J8 fun h₃ H3=>w_or2 (w_cmp ((Z0 (Za 0 rfl rfl) I' DS' gk_nf h3 : EV c _ _ _ _ _ _ _ _ _).eq H3 ((Z0 (Za 0 rfl rfl) I' DS' gk_np h2 : EV c _ _ _ _ _ _ _ _ _).eq H3 (Jy (T0 (i:=f) (j:=p) h₃ H3 _ _ ⟨_,rfl⟩ ⟨_,rfl⟩) fun v hv=>?_))))
 subst hv
 refine Yb ?_
 by_cases hlt : f < p
 ·rw[if_pos (by simpa using hlt)]
  exact⟨by simp[Js,hlt],H.leave₀ H3⟩
 ·rw[if_neg (by simpa using hlt)]
  refine Xo H3 (Zr (by rfl) n_bool PyProof.Rows.boot_bool) (Zq H3 (Z0 (Za 0 rfl rfl) I' DS' Me h1) (Zd (c_boolL H3 (hR.sub H) (by exact q1 ‹_› (by decide)) ⟨by simp[Js,hlt],H.leave₀ H3⟩)))
theorem c_tupL {a : Addr}{l : List Value}{Q : Value→Heap→Prop}(H : Led c env g ns vs as os h) (z : Loc g as os a (.li l)) (hz : l.length < 1000) (q : ∀ r h',Led c env g ns vs (as ++ [r]) (os ++ [Sp.tu l]) h'→Q (.ref r) h') : W c A (call (.type "tuple") [.ref a]) Q X h:=fun kk =>
 call_tuple_list (s:=stt c h kk) (H.get z).isList (fun h' hk=>⟨⟨rfl,rfl,rfl⟩,q _ _ ((H.grow hk).newT l)⟩) (by simp;rw[sizeLine_eq];exact q3 ‹_› (by decide))
theorem c_clear {i : Nat}{a : Addr}{l : List Value}{Q : Value→Heap→Prop}(H : Led c env g ns vs as os h) (ha : as[i]?=some a) (ho : os[i]?=some (.li l)) (hz : l.length < 1000) (q : ∀ h',Led c env g ns vs as (os.set i (.li [])) h'→Q .none h') : W c A (call (.builtin "list.clear") [.ref a]) Q X h:=fun kk=>by
 obtain⟨n,hn⟩:=(H.at_ i a _ ha ho).li
 exact call_meets (s:=stt c h kk) F.slot_list_clear ⟨_,hn,rfl⟩ F.entry_list_clear (F.args_list_clear_1 _) (AutoSeq1.list_clear_list_0 a l.toArray n (by simp;rw[sizeLine_eq];exact q3 ‹_› (by decide))) ⟨hn,⟨⟨rfl,rfl,rfl⟩,q _ (H.upd_li ha ho hn rfl)⟩⟩
noncomputable abbrev liI (rs : List Int) : Sp:=.pr fun o=>∃ (l : List Value) (n : Nat),o=listOf l.toArray n∧Paired (fun i v=>isI i v) rs l
noncomputable def nS (F : Int→Int) (r : NR) : Sp:=.pr fun o=>∃ u,o=Tk 86 r.dx #[some (.int r.node r.t),some (.int (F r.node) u),some (.ref r.S)]
noncomputable abbrev tsS (D R : Addr) (p f : Int) : Sp:=.pr fun o=>∃ es n t1 t2,o=dictOf es n∧ES es (tsA D (.ref R) (.int p t1) (.int f t2))
structure TF (g : Heap) (x dxS D : Addr) (nd : List NR) : Prop where
 ne : (D == sysModules)=false
 I : At g x (.ob (Z9 183 dxS))
 D : At g D (dI (nM nd))
 rc : ∀ r∈nd,At g r.dx (atS [])∧At g r.S r.sl
 nd : (nd.map (·.node)).Nodup
theorem TF.mono {g g' : Heap}{x dxS D : Addr}{nd : List NR}(z : TF g x dxS D nd) (k : g.StaysIn g') : TF g' x dxS D nd:=
 ⟨z.ne,z.I.stay k,z.D.stay k,fun r hr=>⟨(z.rc r hr).1.stay k,(z.rc r hr).2.stay k⟩,z.nd⟩
noncomputable def up (F : Int→Int) (k v : Int) : Int→Int:=fun i=>if i=k then v else F i
theorem nS_up {nd : List NR}{i : Nat}{r : NR}{F : Int→Int}{v : Int}(hn : (nd.map (·.node)).Nodup) (h : nd[i]?=some r) : (nd.map (nS F)).set i (nS (up F r.node v) r)=nd.map (nS (up F r.node v)):=by
 induction nd generalizing i with
 | nil=>cases h
 | cons x nd ih =>
  have hx:=List.nodup_cons.mp hn
  have key : ∀ y,y.node≠r.node→nS F y=nS (up F r.node v) y:=fun y hne=>by unfold nS up;rw[if_neg hne]
  cases i with
  | zero =>
   cases h
   rw[List.map_cons,List.map_cons,List.set_cons_zero]
   exact congrArg _ (List.map_congr_left fun y hy=>key y fun q=>hx.1 (by have m : y.node∈nd.map (·.node):=List.mem_map_of_mem hy;rw[q] at m;exact m))
  | succ i =>
   have h' : nd[i]?=some r:=h
   rw[List.map_cons,List.map_cons,List.set_cons_succ,ih hx.2 h',key x fun q=>hx.1 (by have m : r.node∈nd.map (·.node):=List.mem_map_of_mem (Nd h');rw[← q] at m;exact m)]
section
variable {as0 : List Addr} {os0 : List Sp}
theorem Tr {r : NR}{F : Int→Int}{j : Nat}(H : Led c env g ns vs as os h) (ha : as[j]?=some r.N) (ho : os[j]?=some (nS F r)) (D : Loc g as os r.dx (atS [])) : Ex2 fun (u : Tok) (o' : Sp)=>An4 (o'=.ob (Tk 86 r.dx #[some (.int r.node r.t),some (.int (F r.node) u),some (.ref r.S)])) (Led c env g ns vs as (os.set j o') h) (Loc g as (os.set j o') r.N o') (Loc g as (os.set j o') r.dx (atS [])):=by
 obtain⟨o,e,u,ho'⟩:=H.at_ j _ _ ha ho
 have hne : r.dx≠r.N:=fun z=>by
  obtain⟨od,e2,es,n,hod,o_⟩:=H.get D
  rw[z,e] at e2;cases e2
  rw[ho'] at hod;cases hod
 exact⟨u,_,rfl,H.spec ha ho ⟨o,e,ho'⟩,.ld j ha (List.getElem?_set_self (Zn ho)),D.set H ha hne⟩
theorem Tn {r : NR}{F : Int→Int}{j : Nat}{b : Bool}{Q : Value→Heap→Prop}(H : Led c env g ns vs as os h) (ha : as[j]?=some r.N) (ho : os[j]?=some (nS F r)) (D : Loc g as os r.dx (atS [])) (q : ∀ u,Q (.int (F r.node) u) h) :
 W c A (getAttr (.ref r.N) (Str.ofString "npredecessors") b) Q X h:=by
 obtain⟨u,o_,rfl,H1,L1,D1⟩:=Tr H ha ho D
 exact T9 H1 L1 D1 gs_np rfl rfl (q u)
theorem c_getSc {r : NR}{F : Int→Int}{j : Nat}{b : Bool}{Q : Value→Heap→Prop}(H : Led c env g ns vs as os h) (ha : as[j]?=some r.N) (ho : os[j]?=some (nS F r)) (D : Loc g as os r.dx (atS [])) (q : Q (.ref r.S) h) :
 W c A (getAttr (.ref r.N) (Str.ofString "successors") b) Q X h:=by
 obtain⟨u,o_,rfl,H1,L1,D1⟩:=Tr H ha ho D
 exact T9 H1 L1 D1 gs_sc rfl rfl q
theorem c_getNode {r : NR}{F : Int→Int}{j : Nat}{b : Bool}{Q : Value→Heap→Prop}(H : Led c env g ns vs as os h) (ha : as[j]?=some r.N) (ho : os[j]?=some (nS F r)) (D : Loc g as os r.dx (atS [])) (q : Q (.int r.node r.t) h) :
 W c A (getAttr (.ref r.N) (Str.ofString "node") b) Q X h:=by
 obtain⟨u,o_,rfl,H1,L1,D1⟩:=Tr H ha ho D
 exact T9 H1 L1 D1 gs_node rfl rfl q
theorem c_setNp {r : NR}{F F' : Int→Int}{j : Nat}{v : Int}{t : Tok}{Q : Unit→Heap→Prop}(H : Led c env g ns vs as os h) (ha : as[j]?=some r.N) (ho : os[j]?=some (nS F r)) (D : Loc g as os r.dx (atS [])) (hF : F' r.node=v) (q : ∀ h',Led c env g ns vs as (os.set j (nS F' r)) h'→Q () h') :
 W c A (setAttr (.ref r.N) (Str.ofString "npredecessors") (.int v t)) Q X h:=by
 obtain⟨u,o_,rfl,H',o_,D'⟩:=Tr H ha ho D
 have jl:=Zn ho
 refine S3 (j:=j) H' ha (List.getElem?_set_self jl) D' ss_np (by decide) fun h' H2=>q h' ?_
 obtain⟨o2,e2,e3⟩:=H2.at_ j _ _ ha (List.getElem?_set_self (by simpa using jl))
 have:=H2.spec (o':=nS F' r) ha (List.getElem?_set_self (by simpa using jl)) ⟨o2,e2,t,by rw[e3,hF];rfl⟩
 simpa [List.set_set] using this
theorem Led.openI {rs : List Int}{j : Nat}{a : Addr}(H : Led c env g ns vs as os h) (ha : as[j]?=some a) (ho : os[j]?=some (liI rs)) : ∃ l : List Value,Paired (fun i v=>isI i v) rs l∧Led c env g ns vs as (os.set j (.li l)) h:=by
 obtain⟨o,e,l,n,rfl,p⟩:=H.at_ j _ _ ha ho
 exact⟨l,p,H.spec ha ho ⟨_,e,n,rfl⟩⟩
theorem Led.closeI {rs : List Int}{j : Nat}{a : Addr}{l : List Value}(H : Led c env g ns vs as os h) (ha : as[j]?=some a) (ho : os[j]?=some (.li l)) (p : Paired (fun i v=>isI i v) rs l) : Led c env g ns vs as (os.set j (liI rs)) h:=by
 obtain⟨o,e,n,rfl⟩:=H.at_ j _ _ ha ho
 exact H.spec ha ho ⟨_,e,l,n,rfl,p⟩
theorem Led.openT {D R : Addr}{p f : Int}{j : Nat}{a : Addr}(H : Led c env g ns vs as os h) (ha : as[j]?=some a) (ho : os[j]?=some (tsS D R p f)) : ∃ t1 t2,Led c env g ns vs as (os.set j (atS (tsA D (.ref R) (.int p t1) (.int f t2)))) h:=by
 obtain⟨o,e,es,n,t1,t2,rfl,x⟩:=H.at_ j _ _ ha ho
 exact⟨t1,t2,H.spec ha ho ⟨_,e,es,n,rfl,x⟩⟩
theorem Led.closeT {D R : Addr}{p f : Int}{t1 t2 : Tok}{j : Nat}{a : Addr}(H : Led c env g ns vs as os h) (ha : as[j]?=some a) (ho : os[j]?=some (atS (tsA D (.ref R) (.int p t1) (.int f t2)))) : Led c env g ns vs as (os.set j (tsS D R p f)) h:=by
 obtain⟨o,e,es,n,rfl,x⟩:=H.at_ j _ _ ha ho
 exact H.spec ha ho ⟨_,e,es,n,t1,t2,rfl,x⟩
end
noncomputable def tA (dxS R : Addr) (nd : List NR) : List Addr:=[dxS,R] ++ nd.map (·.N)
noncomputable def tO (T L : Sp) (F : Int→Int) (nd : List NR) : List Sp:=[T,L] ++ nd.map (nS F)
section
variable {dxS R : Addr} {nd : List NR} {T T' L L' : Sp} {F : Int → Int} {as0 : List Addr} {os0 : List Sp} {r : NR} {i : Nat}
theorem tA0 : (as0 ++ tA dxS R nd)[as0.length]?=some dxS:=by simp[tA]
theorem tA1 : (as0 ++ tA dxS R nd)[as0.length + 1]?=some R:=Zw rfl (by simp[tA])
theorem tAn (h : nd[i]?=some r) : (as0 ++ tA dxS R nd)[as0.length + (i + 2)]?=some r.N:=Zw rfl (by simp[tA,h])
theorem tO0 (e : as0.length=os0.length) : (os0 ++ tO T L F nd)[as0.length]?=some T:=by rw[e];simp[tO]
theorem tO1 (e : as0.length=os0.length) : (os0 ++ tO T L F nd)[as0.length + 1]?=some L:=Zw e (by simp[tO])
theorem tOn (e : as0.length=os0.length) (h : nd[i]?=some r) : (os0 ++ tO T L F nd)[as0.length + (i + 2)]?=some (nS F r):=Zw e (by simp[tO,h])
theorem tS0 (e : as0.length=os0.length) : (os0 ++ tO T L F nd).set as0.length T'=os0 ++ tO T' L F nd:=by rw[e];simp[tO]
theorem tS1 (e : as0.length=os0.length) : (os0 ++ tO T L F nd).set (as0.length + 1) L'=os0 ++ tO T L' F nd:=by rw[U3 e];simp[tO]
theorem tSn (e : as0.length=os0.length) (hn : (nd.map (·.node)).Nodup) (h : nd[i]?=some r) {v : Int} : (os0 ++ tO T L F nd).set (as0.length + (i + 2)) (nS (up F r.node v) r)=os0 ++ tO T L (up F r.node v) nd:=by
 rw[U3 e];simp only[tO,List.cons_append,List.nil_append,List.set_cons_succ]
 rw[nS_up hn h]
end
noncomputable abbrev fdGR : FuncData:=Xl (me 12 4) "TopologicalSorter.get_ready" .none (.str "cpy313.graphlib" 330) (.ref 144)
noncomputable abbrev psGR : List PySem.Str:=["self"]
noncomputable abbrev rsGR : List PySem.Str:=["result","n2i","node"]
theorem F_gr : FnK 145 fdGR (fnB (me 12 4)) (psGR ++ rsGR):=⟨fun P=>by kernel_rfl,fun P=>by kernel_rfl,rfl,by kernel_rfl,dk,dk,dk,rfl,rfl,by kernel_rfl,by kernel_rfl⟩
theorem B_gr (a : Value) : bindArgs fdGR ⟨[a],[]⟩=pure (psGR.zip [a]):=by kernel_rfl
theorem n_tuple (P : Params) : nsIn (K P) mainGlobals "tuple"=some none:=by kernel_rfl
theorem n_out (P : Params) : nsIn (K P) mainGlobals "_NODE_OUT"=some (some (.int (-1) 333)):=by kernel_rfl
theorem n_dn (P : Params) : nsIn (K P) mainGlobals "_NODE_DONE"=some (some (.int (-2) 336)):=by kernel_rfl
noncomputable def Mf (F : Int→Int) (ks : List Int) : Int→Int:=fun i=>if i∈ks then -1 else F i
theorem outL_snoc (F : Int→Int) (ks : List Int) (k : Int) : Mf F (ks ++ [k])=up (Mf F ks) k (-1):=by
 funext i
 unfold Mf up
 by_cases h : i=k
 ·simp[h]
 ·simp[h]
theorem lput_np {D : Addr}{r p f v : Value} : Xx (Str.ofString "_npassedout") v (tsA D r p f)=tsA D r v f:=by kernel_rfl
theorem lput_nf {D : Addr}{r p f v : Value} : Xx (Str.ofString "_nfinished") v (tsA D r p f)=tsA D r p v:=by kernel_rfl
theorem lput_rn {D : Addr}{r p f v : Value} : Xx (Str.ofString "_ready_nodes") v (tsA D r p f)=tsA D v p f:=by kernel_rfl
theorem Sz {α β : Type}{F : α→β→Prop}{l : List α}{m : List β}(p : Paired F l m) {i : Nat}{a : α}(e : l[i]?=some a) : ∃ b,m[i]?=some b∧F a b:=by
 induction p generalizing i with
 | nil=>cases e
 | cons r _ ih=>cases i with
  | zero=>cases e;exact⟨_,rfl,r⟩
  | succ i=>exact ih (i:=i) e
theorem Jw {D : Addr}{r p f : Value} : (tsA D r p f).lookup (Str.ofString "_ready_nodes")=some r:=by kernel_rfl
theorem Vn {D : Addr}{r p f : Value} : (tsA D r p f).lookup (Str.ofString "_node2info")=some (.ref D):=by kernel_rfl
theorem look_np {D : Addr}{r p f : Value} : (tsA D r p f).lookup (Str.ofString "_npassedout")=some p:=by kernel_rfl
theorem look_nf {D : Addr}{r p f : Value} : (tsA D r p f).lookup (Str.ofString "_nfinished")=some f:=by kernel_rfl
section
variable {as0 : List Addr} {os0 : List Sp}
theorem mem_idx {nd : List NR}{k : Int}(h : k∈nd.map (·.node)) : ∃ (i : Nat) (r : NR),nd[i]?=some r∧r.node=k:=by
 obtain⟨r,hr,e⟩:=Ng h
 obtain⟨i,hi⟩:=List.mem_iff_getElem?.mp hr
 exact⟨i,r,hi,e⟩
theorem ready_ok {x dxS D R : Addr}{nd : List NR}{p f : Int}{rs : List Int}{F : Int→Int}(hA : Rm A 3) (hh : A.handled=none) (Z : TF g.hp x dxS D nd) (e0 : as0.length=os0.length) (hr : ∀ k∈rs,k∈nd.map (·.node)) (hz : rs.length < 900)
 (H : Led c env g ns vs (as0 ++ tA dxS R nd) (os0 ++ tO (tsS D R p f) (liI rs) F nd) h) :
 W c A (call (.ref 145) [.ref x]) (fun v h'=>Ex3 fun (T : Addr) (g' : Bas) (l : List Value)=>An6 (v=.ref T) (g.hp.StaysIn g'.hp) (g'.fo=g.fo) (Paired (fun i v=>isI i v) rs l) (At g'.hp T (.tu l)) (Led c env g' ns vs (as0 ++ tA dxS R nd) (os0 ++ tO (tsS D R (p + rs.length) f) (liI []) (Mf F rs) nd) h')) noX h:=by
 refine Zl ?_
 intro Q'
 obtain⟨t1,t2,H⟩:=H.openT tA0 (tO0 e0)
 rw[tS0 e0] at H
 obtain⟨l,pl,H⟩:=H.openI tA1 (tO1 e0)
 rw[tS1 e0] at H
 have hl : l.length=rs.length:=pl.length.symm
 refine Us H F_gr hA.depth (B_gr _) rfl dk fun L h₁ H1=>?_
 have I1:=Z.I.stay H.stay
 have DS1 : Loc (subB g h env ns vs (as0 ++ tA dxS R nd)) (as0 ++ tA dxS R nd) (os0 ++ tO (atS (tsA D (.ref R) (.int p t1) (.int f t2))) (.li l) F nd) dxS (atS (tsA D (.ref R) (.int p t1) (.int f t2))):=.ld _ tA0 (tO0 e0)
 refine Uq (Yx ((Z0 (Za 0 rfl rfl) (.fz I1) DS1 Me Jw : EV c _ _ _ _ _ _ _ _ _).eq H1 ((ev_none : EV c _ _ _ _ _ _ _ _ _).eq H1 (c_is rfl (Yb ?_)))))
 rw[if_neg (by simp)]
 refine Zg (fun h₂ H2=>?_) h₁ H1
 refine Zz (Xo H2 (Zr (by rfl) n_tuple PyProof.Rows.boot_tuple) (Zq H2 (Z0 (Za 0 rfl rfl) (.fz I1) DS1 Me Jw) (Zd (c_tupL H2 (.ld _ tA1 (tO1 e0)) (by exact q5 ‹_› ‹_› (by decide)) fun T h₃ H3=>Zp 1 rfl rfl H3 fun h4 H4=>?_))))
 obtain⟨g',s1,s2,H5,zT⟩:=H4.solid
 have I2:=I1.stay s1
 have Z2 : TF g'.hp x dxS D nd:=(Z.mono H.stay).mono s1
 have DS2 : ∀ F',Loc g' (as0 ++ tA dxS R nd) (os0 ++ tO (atS (tsA D (.ref R) (.int p t1) (.int f t2))) (.li l) F' nd) dxS (atS (tsA D (.ref R) (.int p t1) (.int f t2))):=fun F'=>.ld _ tA0 (tO0 e0)
 refine (?_ : SB c _ _ _ _ _ _ _ _ _ _) h4 H5
 refine Zs 2 rfl rfl (Z0 (Za 0 rfl rfl) (.fz I2) (DS2 F) Vv Vn) ?_
 rintro o_ rfl
 refine X9 (fun h'=>∃ x4,Led c (callEnv fdGR L 145) g' (psGR ++ rsGR) [some (.ref x),some (.ref T),some (.ref D),x4] (as0 ++ tA dxS R nd) (os0 ++ tO (atS (tsA D (.ref R) (.int p t1) (.int f t2))) (.li l) (Mf F rs) nd) h') ?_ ?_
 intro F'
 refine fun h' H'=>(Za 1 rfl rfl : EV c _ _ _ _ _ _ _ _ _).eq H' (Vl H' (.fz zT) fun it h'' H''=>?_)
 ·refine⟨it,l.length,fun j=>.itT T j,fun j v=>l[j]?=some v,fun g=>At g T (.tu l),
   fun j g'' vs'' as'' os''=>Ex1 fun x4=>An4 (g''=g') (vs''=[some (.ref x),some (.ref T),some (.ref D),x4]) (as''=as0 ++ tA dxS R nd) (os''=os0 ++ tO (atS (tsA D (.ref R) (.int p t1) (.int f t2))) (.li l) (Mf F (rs.take j)) nd),
   rfl,Jn (show (A.deeper (callEnv fdGR L 145)).handled=none from hh),⟨_,_,_,_,⟨none,rfl,rfl,rfl,rfl⟩,H''⟩,by rintro _ _ _ _ _ ⟨_,e,_⟩;exact e ▸ zT,?_,?_⟩
  ·rintro J' j QL o_ o_ o_ o_ v h6 hj ⟨x4,rfl,rfl,rfl,rfl⟩ hv H6
   refine H6.lv ?_
   intro vl H6
   have hk : rs[j]?=some (rs[j]'(by exact r1 ‹_› ‹_›)):=Nc _
   obtain⟨v',hv',t,rfl⟩:=Sz pl hk
   rw[hv] at hv';cases hv'
   obtain⟨i,r,hi,hrn⟩:=mem_idx (hr _ (Nd hk))
   refine Yp 3 rfl rfl H6 fun h7 H7=>?_
   refine Xb ((Xm (by rfl) n_out : EV c _ _ _ _ _ _ _ _ _).eq H7 (w_sub ((Za 2 rfl rfl : EV c _ _ _ _ _ _ _ _ _).eq H7 ((Za 3 rfl rfl : EV c _ _ _ _ _ _ _ _ _).eq H7 (w_tailD H7 (.fz Z2.D) (hrn ▸ M9 Z2.nd hi) ?_)))))
   refine c_setNp (F':=up (Mf F (rs.take j)) r.node (-1)) H7 (ap (tAn hi) _) (ap (tOn e0 hi) _) (.fz (Z2.rc r (Nd hi)).1) (by simp[up]) fun h8 H8=>?_
   rw[Z6 (Zn (tOn e0 hi)),tSn e0 Z2.nd hi] at H8
   refine Zg (fun h9 H9=>?_) h8 H8
   refine⟨_,_,_,_,⟨_,rfl,rfl,rfl,?_⟩,H9⟩
   rw[List.take_add_one,hk,Option.toList_some,outL_snoc,hrn]
  ·rintro o_ o_ o_ o_ h6 ⟨x4,rfl,rfl,rfl,rfl⟩ H6
   rw[hl,List.take_length] at H6
   exact⟨x4,H6⟩
 ·rintro h6 ⟨x4,H6⟩
  have hd:=H6.hd tA1 (tO1 e0)
  refine Yj (Tw H6 (Z0 (Za 0 rfl rfl) (.fz I2) (DS2 _) Me Jw) PySem.F.plainAttrs_list PySem.F.slot_list_clear PySem.F.type_list_clear hd.1 hd.2 (c_clear H6 tA1 (tO1 e0) (by exact q5 ‹_› ‹_› (by decide)) fun h7 H7=>?_))
  rw[tS1 e0] at H7
  have DS3 : Loc g' (as0 ++ tA dxS R nd) (os0 ++ tO (atS (tsA D (.ref R) (.int p t1) (.int f t2))) (.li []) (Mf F rs) nd) dxS (atS (tsA D (.ref R) (.int p t1) (.int f t2))):=.ld _ tA0 (tO0 e0)
  refine U0 ((Za 0 rfl rfl : EV c _ _ _ _ _ _ _ _ _).eq H7 (c_get H7 (.fz I2) DS3 gk_np look_np rfl ((ev_lenT (Zr (by rfl) Uf boot_len) (Za 1 rfl rfl) (.fz zT) (by exact q5 ‹_› ‹_› (by decide)) : EV c _ _ _ _ _ _ _ _ _).runI H7 fun t3 kk=>?_)))
  refine PyProof.Rows.iadd_int (s:=stt c h7 kk) ⟨⟨rfl,rfl,rfl⟩,?_⟩
  refine Ue (j:=as0.length) H7 (.fz I2) tA0 (tO0 e0) sk_np (by simp) fun h8 H8=>?_
  rw[tS0 e0,lput_np] at H8
  refine (?_ : SB c _ _ _ _ _ _ _ _ _ _) h8 H8
  refine Y6 (Za 1 rfl rfl) fun h9 H9 v hv=>?_
  have H10:=H9.closeT tA0 (tO0 e0)
  rw[tS0 e0] at H10
  have H11:=H10.closeI (rs:=[]) tA1 (tO1 e0) .nil
  rw[tS1 e0] at H11
  have hv' : v=.ref T:=hv
  have lv:=H.leave H11 s1 s2
  refine⟨T,⟨g'.hp,g.fo⟩,l,hv',lv.2,rfl,pl,zT,?_⟩
  rw[hl] at lv
  exact lv.1
end
noncomputable abbrev fdDN : FuncData:=Xl (me 12 7) "TopologicalSorter.done" .none (.str "cpy313.graphlib" 330) (.ref 165)
noncomputable abbrev psDN : List PySem.Str:=["self"]
noncomputable abbrev rsDN : List PySem.Str:=["n2i","node","nodeinfo","stat","successor","successor_info"]
theorem F_dn : FnK 166 fdDN (fnB (me 12 7)) ((psDN ++ [Str.ofString "nodes"]) ++ rsDN):=⟨fun P=>by kernel_rfl,fun P=>by kernel_rfl,rfl,by kernel_rfl,dk,dk,dk,rfl,rfl,by kernel_rfl,by kernel_rfl⟩
theorem B_dn (a d : Value) : bindArgs fdDN ⟨[a] ++ [d],[]⟩=(newTuple [d] >>= fun t=>pure ((psDN ++ [Str.ofString "nodes"]).zip ([a] ++ [t]))):=by kernel_rfl
noncomputable def Jr (s : (Int→Int) × List Int) (k : Int) : (Int→Int) × List Int:=(up s.1 k (s.1 k - 1),if s.1 k - 1=0 then s.2 ++ [k] else s.2)
noncomputable def dnL (F : Int→Int) (rs : List Int) (k : Int) (sc : List Int) : (Int→Int) × List Int:=sc.foldl Jr (up F k (-2),rs)
theorem dnL_len (sc : List Int) : ∀ s : (Int→Int) × List Int,(sc.foldl Jr s).2.length≤s.2.length + sc.length:=by
 induction sc with
 | nil=>simp
 | cons k sc ih =>
  intro s
  have:=ih (Jr s k)
  simp only[List.foldl_cons,List.length_cons]
  have h2 : (Jr s k).2.length≤s.2.length + 1:=by unfold Jr;split <;> simp
  exact S7 this (S7 (Nat.add_le_add_right h2 _) (S9 (Nat.add_right_comm ..)))
section
variable {as0 : List Addr} {os0 : List Sp}
theorem done_cd {x dxS D R : Addr}{nd : List NR}{p f : Int}{rs : List Int}{F : Int→Int}{i : Nat}{r : NR}{t : Tok}(hA : Rm A 3) (hh : A.handled=none) (Z : TF g.hp x dxS D nd) (e0 : as0.length=os0.length) (hi : nd[i]?=some r) (hF : F r.node=-1) (hsc : ∀ k∈r.sc,k.1∈nd.map (·.node)) (hz : rs.length + r.sc.length < 900)
 (H : Led c env g ns vs (as0 ++ tA dxS R nd) (os0 ++ tO (tsS D R p f) (liI rs) F nd) h) :
 CD c A (.call (.ref 166) ⟨[.ref x] ++ [.int r.node t],[]⟩) (Ul (fun v h'=>v=.none∧Led c env g ns vs (as0 ++ tA dxS R nd) (os0 ++ tO (tsS D R p (f + 1)) (liI (dnL F rs r.node (r.sc.map (·.1))).2) (dnL F rs r.node (r.sc.map (·.1))).1 nd) h') noX) h:=by
 obtain⟨U,hU⟩ : ∃ U,U=dnL F rs r.node (r.sc.map (·.1)):=⟨_,rfl⟩
 rw[← hU]
 refine J9 ?_
 intro Q'
 obtain⟨t1,t2,H⟩:=H.openT tA0 (tO0 e0)
 rw[tS0 e0] at H
 refine cd_fnV (ps:=psDN) (vr:=Str.ofString "nodes") (rs:=rsDN) (xs:=[.ref x]) (rest:=[.int r.node t]) H F_dn hA.depth (B_dn _ _) rfl dk (by simp) fun L Tt h₀ h₁ H0 H1=>?_
 obtain⟨g',s1,s2,H2,zT⟩:=H1.solid
 have Z2 : TF g'.hp x dxS D nd:=(Z.mono H0.stay).mono s1
 have I2:=Z2.I
 have DS2 : ∀ rl F' {f'},Loc g' (as0 ++ tA dxS R nd) (os0 ++ tO (atS (tsA D (.ref R) (.int p t1) f')) rl F' nd) dxS (atS (tsA D (.ref R) (.int p t1) f')):=fun rl F' f'=>.ld _ tA0 (tO0 e0)
 refine Uq (Yx ((Z0 (Za 0 rfl rfl) (.fz I2) (DS2 _ _) Me Jw : EV c _ _ _ _ _ _ _ _ _).eq H2 ((ev_none : EV c _ _ _ _ _ _ _ _ _).eq H2 (c_is rfl (Yb ?_)))))
 rw[if_neg (by simp)]
 refine Zg (fun h₃ H3=>?_) h₁ H2
 refine (?_ : SB c _ _ _ _ _ _ _ _ _ _) h₃ H3
 refine Zs 2 rfl rfl (Z0 (Za 0 rfl rfl) (.fz I2) (DS2 _ _) Vv Vn) ?_
 rintro o_ rfl
 refine X9 (fun h'=>∃ x3 x4 x5 x6 x7 u,Led c (callEnv fdDN L 166) g' ((psDN ++ [Str.ofString "nodes"]) ++ rsDN) [some (.ref x),some (.ref Tt),some (.ref D),x3,x4,x5,x6,x7] (as0 ++ tA dxS R nd) (os0 ++ tO (atS (tsA D (.ref R) (.int p t1) (.int (f + 1) u))) (liI U.2) U.1 nd) h') ?_ ?_
 intro F'
 refine fun h' H'=>(Za 1 rfl rfl : EV c _ _ _ _ _ _ _ _ _).eq H' (Vl H' (.fz zT) fun it h'' H''=>?_)
 ·refine⟨it,1,fun j=>.itT Tt j,fun j v=>[Value.int r.node t][j]?=some v,fun g=>At g Tt (.tu [.int r.node t]),
   fun j g'' vs'' as'' os''=>Ex6 fun x3 x4 x5 x6 x7 u=>An4 (g'=g'') (vs''=[some (.ref x),some (.ref Tt),some (.ref D),x3,x4,x5,x6,x7]) (as''=as0 ++ tA dxS R nd) (os''=if j=0 then os0 ++ tO (atS (tsA D (.ref R) (.int p t1) (.int f t2))) (liI rs) F nd else os0 ++ tO (atS (tsA D (.ref R) (.int p t1) (.int (f + 1) u))) (liI U.2) U.1 nd),
   rfl,Jn (l:=[.int r.node t]) (show (A.deeper (callEnv fdDN L 166)).handled=none from hh),⟨_,_,_,_,⟨none,none,none,none,none,0,rfl,rfl,rfl,rfl⟩,H''⟩,by rintro _ _ _ _ _ ⟨_,_,_,_,_,_,e,_⟩;exact e ▸ zT,?_,?_⟩
  ·rintro J' j QL o_ o_ o_ o_ v h6 hj ⟨x3,x4,x5,x6,x7,u,rfl,rfl,rfl,rfl⟩ hv H6
   obtain rfl : j=0:=by lia
   simp only[if_true] at H6
   have hv' : v=.int r.node t:=by simpa using hv.symm
   subst hv'
   refine H6.lva ?_
   intro vk ak H6
   refine Yp 3 rfl rfl H6 fun h7 H7=>?_
   obtain⟨od,eD,es,n,rfl,o_⟩:=H7.get (.fz Z2.D)
   have zr:=Z2.rc r (Nd hi)
   refine Uq (Yx (w_named (Xa H7 (Za 2 rfl rfl) PySem.F.plainAttrs_dict PySem.F.slot_dict_get PySem.F.type_dict_get (fun k=>⟨_,eD,rfl⟩) (fun b hb=>by cases hb;exact⟨_,eD,rfl⟩) (Zq H7 (Za 3 rfl rfl) (Zd (c_dget H7 (.fz Z2.D) ?_))))))
   rw[M9 Z2.nd hi]
   refine Yp 4 rfl rfl H7 fun h8 H8=>(ev_none : EV c _ _ _ _ _ _ _ _ _).eq H8 (c_is rfl (Yb ?_))
   rw[if_neg (by simp)]
   refine Zg (fun h9 H9=>?_) h8 H8
   refine Zz (Uy H9 (Za 4 rfl rfl) (Tn H9 (ap (tAn hi) _) (ap (tOn e0 hi) _) (.fz zr.1) fun u1=>Zp 5 rfl rfl H9 fun h10 H10=>?_))
   rw[hF] at H10
   refine (?_ : SB c _ _ _ _ _ _ _ _ _ _) h10 H10
   refine Ym (d:=false) ((Zb (Zj 5 rfl rfl) ((Xm (by rfl) n_out : EV c _ _ _ _ _ _ _ _ _).mono fun v e=>⟨_,e⟩) ne_ii).cast (by decide)) (fun q=>by cases q) fun o_=>Zg fun h11 H11=>?_
   refine Xb ((Xm (by rfl) n_dn : EV c _ _ _ _ _ _ _ _ _).eq H11 ((Za 4 rfl rfl : EV c _ _ _ _ _ _ _ _ _).eq H11 (c_setNp (F':=up F r.node (-2)) H11 (ap (tAn hi) _) (ap (tOn e0 hi) _) (.fz zr.1) (by simp[up]) fun h12 H12=>?_)))
   rw[Z6 (Zn (tOn e0 hi)),tSn e0 Z2.nd hi] at H12
   refine (?_ : SB c _ _ _ _ _ _ _ _ _ _) h12 H12
   refine X9 (fun h'=>∃ x6 x7,Led c (callEnv fdDN L 166) g' ((psDN ++ [Str.ofString "nodes"]) ++ rsDN) [some (.ref x),some (.ref Tt),some (.ref D),some (.int r.node t),some (.ref r.N),some (.int (-1) u1),x6,x7] (as0 ++ tA dxS R nd ++ [it]) (os0 ++ tO (atS (tsA D (.ref R) (.int p t1) (.int f t2))) (liI U.2) U.1 nd ++ [.itT Tt (0 + 1)]) h') ?_ ?_
   intro F'
   refine fun h' H'=>Uy H' (Za 4 rfl rfl) (c_getSc H' (ap (tAn hi) _) (ap (tOn e0 hi) _) (.fz zr.1) (Jl H' (.fz zr.2) fun it2 h'' H''=>?_))
   ·refine⟨it2,(r.sc.map fun p=>Value.int p.1 p.2).length,fun j=>.itL r.S j,fun j v=>(r.sc.map fun p=>Value.int p.1 p.2)[j]?=some v,fun g=>At g r.S (.li (r.sc.map fun p=>Value.int p.1 p.2)),
     fun j g'' vs'' as'' os''=>Ex2 fun x6 x7=>An4 (g'=g'') (vs''=[some (.ref x),some (.ref Tt),some (.ref D),some (.int r.node t),some (.ref r.N),some (.int (-1) u1),x6,x7]) (as''=as0 ++ tA dxS R nd ++ [it]) (os''=os0 ++ tO (atS (tsA D (.ref R) (.int p t1) (.int f t2))) (liI (dnL F rs r.node ((r.sc.take j).map (·.1))).2) (dnL F rs r.node ((r.sc.take j).map (·.1))).1 nd ++ [.itT Tt (0 + 1)]),
     rfl,Xk (show (A.deeper (callEnv fdDN L 166)).handled=none from hh),⟨_,_,_,_,⟨_,_,rfl,rfl,rfl,rfl⟩,H''⟩,by rintro _ _ _ _ _ ⟨_,_,e,_⟩;exact e ▸ zr.2,?_,?_⟩
    ·rintro J' j QL o_ o_ o_ o_ v h13 hj ⟨x6,x7,rfl,rfl,rfl,rfl⟩ hv H13
     obtain⟨⟨k,tk⟩,hk,rfl⟩ : ∃ q,r.sc[j]?=some q∧v=.int q.1 q.2:=by
      rw[List.getElem?_map] at hv
      obtain⟨q,e1,e2⟩:=Option.map_eq_some_iff.mp hv
      exact⟨q,e1,e2.symm⟩
     obtain⟨V,hV⟩ : ∃ V,V=dnL F rs r.node ((r.sc.take j).map (·.1)):=⟨_,rfl⟩
     have hVn : dnL F rs r.node ((r.sc.take (j + 1)).map (·.1))=Jr V k:=by
      rw[hV,List.take_add_one,hk];simp[dnL]
     rw[← hV] at H13
     have hVl : V.2.length < 900:=by
      have:=dnL_len ((r.sc.take j).map (·.1)) (up F r.node (-2),rs)
      rw[hV];unfold dnL
      simp only[List.length_map,List.length_take] at this
      exact S5 (S7 this (Nat.add_le_add_left (Nat.min_le_right ..) _)) hz
     obtain⟨i2,r2,hi2,hrn⟩:=mem_idx (hsc _ (Nd hk))
     have hrn' : r2.node=k:=hrn
     have zr2:=Z2.rc r2 (Nd hi2)
     refine H13.lva ?_
     intro vl al H13
     refine Yp 6 rfl rfl H13 fun h14 H14=>?_
     refine Zz (w_sub ((Za 2 rfl rfl : EV c _ _ _ _ _ _ _ _ _).eq H14 ((Za 6 rfl rfl : EV c _ _ _ _ _ _ _ _ _).eq H14 (w_tailD H14 (.fz Z2.D) (hrn' ▸ M9 Z2.nd hi2) (Zp 7 rfl rfl H14 fun h15 H15=>?_)))))
     refine U0 ((Za 7 rfl rfl : EV c _ _ _ _ _ _ _ _ _).eq H15 (Tn H15 (ap (ap (tAn hi2) _) _) (ap (ap (tOn e0 hi2) _) _) (.fz zr2.1) fun u2=>(ev_i : EV c _ _ _ _ _ _ _ _ _).runI H15 fun t3 kk=>?_))
     refine PyProof.Rows.isub_int (s:=stt c h15 kk) ⟨⟨rfl,rfl,rfl⟩,?_⟩
     refine c_setNp (F':=up V.1 r2.node (V.1 r2.node - 1)) H15 (ap (ap (tAn hi2) _) _) (ap (ap (tOn e0 hi2) _) _) (.fz zr2.1) (by simp[up]) fun h16 H16=>?_
     rw[Z6 (by rw[List.length_append];have:=Zn (tOn (T:=(atS (tsA D (.ref R) (.int p t1) (.int f t2)))) (L:=liI V.2) (F:=V.1) e0 hi2);exact Nat.lt_succ_of_lt ‹_›),Z6 (Zn (tOn e0 hi2)),tSn e0 Z2.nd hi2,hrn'] at H16
     refine Uq (Yx (Uy H16 (Za 7 rfl rfl) (Tn H16 (ap (ap (tAn hi2) _) _) (ap (ap (tOn e0 hi2) _) _) (.fz zr2.1) fun u3=>(ev_i : EV c _ _ _ _ _ _ _ _ _).runI H16 fun t4=>?_)))
     refine Jy (Sd h16 H16 _ _ ⟨_,rfl⟩ ⟨_,rfl⟩) fun v hv=>?_
     subst hv
     have hup : up V.1 k (V.1 k - 1) r2.node=V.1 k - 1:=by simp[up,hrn']
     rw[hup]
     refine Yb ?_
     by_cases hz0 : V.1 k - 1=0
     ·rw[if_pos (by simpa using hz0)]
      obtain⟨l,pl,H17⟩:=H16.openI (ap (ap tA1 _) _) (ap (ap (tO1 e0) _) _)
      rw[Z6 (by rw[List.length_append];have:=Zn (tO1 (T:=(atS (tsA D (.ref R) (.int p t1) (.int f t2)))) (L:=liI V.2) (F:=up V.1 k (V.1 k - 1)) (nd:=nd) e0);exact Nat.lt_succ_of_lt ‹_›),Z6 (Zn (tO1 e0)),tS1 e0] at H17
      have hl : l.length=V.2.length:=pl.length.symm
      have hd:=H17.hd (ap (ap tA1 _) _) (ap (ap (tO1 e0) _) _)
      refine Yj (Xa H17 (Z0 (Za 0 rfl rfl) (.fz I2) (((DS2 _ _).more _ _).more _ _) Me Jw) PySem.F.plainAttrs_list PySem.F.slot_list_append PySem.F.type_list_append hd.1 hd.2 (Zq H17 (Za 6 rfl rfl) (Zd (X8 H17 (ap (ap tA1 _) _) (ap (ap (tO1 e0) _) _) (by rw[sizeLine_eq];exact S7 (S9 hl) (Na (S8 hVl (by decide)))) fun h18 H18=>?_))))
      have H19:=H18.closeI (rs:=V.2 ++ [k]) (ap (ap tA1 _) _) (List.getElem?_set_self (Zn (ap (ap (tO1 e0) _) _))) (pl.snoc ⟨_,rfl⟩)
      rw[List.set_set,Z6 (by rw[List.length_append];have:=Zn (tO1 (T:=(atS (tsA D (.ref R) (.int p t1) (.int f t2)))) (L:=.li l) (F:=up V.1 k (V.1 k - 1)) (nd:=nd) e0);exact Nat.lt_succ_of_lt ‹_›),Z6 (Zn (tO1 e0)),tS1 e0] at H19
      refine Zg (fun h20 H20=>?_) h18 H19
      refine Zg (fun h21 H21=>?_) h20 H20
      refine⟨_,_,_,_,⟨_,_,rfl,rfl,rfl,?_⟩,H21⟩
      rw[hVn];unfold Jr;rw[if_pos hz0]
     ·rw[if_neg (by simpa using hz0)]
      refine Zg (fun h20 H20=>?_) h16 H16
      refine Zg (fun h21 H21=>?_) h20 H20
      refine⟨_,_,_,_,⟨_,_,rfl,rfl,rfl,?_⟩,H21⟩
      rw[hVn];unfold Jr;rw[if_neg hz0]
    ·rintro o_ o_ o_ o_ h13 ⟨x6,x7,rfl,rfl,rfl,rfl⟩ H13
     rw[List.length_map,List.take_length,← hU] at H13
     exact⟨_,_,H13⟩
   ·rintro h13 ⟨x6,x7,H13⟩
    refine U0 ((Za 0 rfl rfl : EV c _ _ _ _ _ _ _ _ _).eq H13 (c_get H13 (.fz I2) ((DS2 _ _).more _ _) gk_nf look_nf rfl ((ev_i : EV c _ _ _ _ _ _ _ _ _).runI H13 fun t3 kk=>?_)))
    refine PyProof.Rows.iadd_int (s:=stt c h13 kk) ⟨⟨rfl,rfl,rfl⟩,?_⟩
    refine Ue (j:=as0.length) H13 (.fz I2) (ap tA0 _) (ap (tO0 e0) _) sk_nf (by simp) fun h14 H14=>?_
    rw[Z6 (Zn (tO0 e0)),tS0 e0,lput_nf] at H14
    refine Zg (fun h15 H15=>?_) h14 H14
    exact⟨_,_,_,_,⟨_,_,_,_,_,_,rfl,rfl,rfl,rfl⟩,H15⟩
  ·rintro o_ o_ o_ o_ h6 ⟨x3,x4,x5,x6,x7,u,rfl,rfl,rfl,rfl⟩ H6
   exact⟨_,_,_,_,_,_,H6⟩
 ·rintro h6 ⟨x3,x4,x5,x6,x7,u,H6⟩
  refine Zg (fun h7 H7=>⟨rfl,?_⟩) h6 H6
  have H8:=H7.closeT tA0 (tO0 e0)
  rw[tS0 e0] at H8
  have:=H0.leave H8 s1 s2
  exact this.1.weaken (g':=g) H.low this.2 rfl
end
theorem Vt : Slot "list_iterator" "__getattribute__" "object.__getattribute__":=.of (owner:="object") (n:="__getattribute__") (by rw[typeLookup_type,builtinLookup_eq_fast];kernel_rfl) dk dk dk dk (by rw[isSubtype_type];kernel_rfl)
theorem li_getattr : typeLookup (.type "list_iterator") "__getattr__"=pure none:=by rw[typeLookup_type,builtinLookup_eq_fast];kernel_rfl
theorem entry_o_ga : entryFor table "object.__getattribute__"=some Builtin.«object.__getattribute__»:=entryFor_of_tree (by kernel_rfl)
theorem args_o_ga (a b : Value) : argsOk "object.__getattribute__" ⟨[a,b],[]⟩:=by unfold argsOk;kernel_rfl
theorem ty_next : typeOf (.builtin "list_iterator.__next__")=pure (.type "wrapper_descriptor"):=by kernel_rfl
theorem Th : Slot "wrapper_descriptor" "__get__" "wrapper_descriptor.__get__":=.of (owner:="wrapper_descriptor") (n:="__get__") (by rw[typeLookup_type,builtinLookup_eq_fast];kernel_rfl) dk dk dk dk (by rw[isSubtype_type];kernel_rfl)
theorem wd_set : typeLookup (.type "wrapper_descriptor") "__set__"=pure none:=by rw[typeLookup_type,builtinLookup_eq_fast];kernel_rfl
theorem wd_del : typeLookup (.type "wrapper_descriptor") "__delete__"=pure none:=by rw[typeLookup_type,builtinLookup_eq_fast];kernel_rfl
theorem entry_wd_get : entryFor table "wrapper_descriptor.__get__"=some Builtin.«wrapper_descriptor.__get__»:=entryFor_of_tree (by kernel_rfl)
theorem args_wd_get (a b d : Value) : argsOk "wrapper_descriptor.__get__" ⟨[a,b,d],[]⟩:=by unfold argsOk;kernel_rfl
noncomputable abbrev mwO (it : Addr) : Obj:={ cls:=.type "method-wrapper",dict:=none,data:=.fields #[.builtin "list_iterator.__next__",.ref it],slots:=#[] }
theorem sub_lin : isSubtype (.type "list_iterator") (.type (".".intercalate ("list_iterator.__next__".cutAt '.').dropLast))=pure true:=by
 rw[show ".".intercalate ("list_iterator.__next__".cutAt '.').dropLast="list_iterator" from dk,isSubtype_type];kernel_rfl
theorem wd_get (it l : Addr) (i : Nat) (sl : Array (Option Value)) (d : Option Addr) :
 Meets (Builtin.«wrapper_descriptor.__get__» ⟨[.builtin "list_iterator.__next__",.ref it,.type "list_iterator"],[]⟩) (fun A R s=>s.heap.get? it=some { cls:=.type "list_iterator",dict:=d,data:=.fields #[.ref l,.int i 0],slots:=sl } ∧
  R (.ok (.ret (.ref s.heap.objs.size))) { s with heap:=s.heap.push (mwO it) }):=
 Meets.of_wp fun prog w A R s hs=>by
  obtain⟨hp,g,dd,tk,os⟩:=s
  obtain⟨hx,hs⟩:=hs
  have hT : (⟨hp,g,dd,tk,os⟩ : Shared).TypeIs (.ref it) "list_iterator":=⟨_,hx,rfl⟩
  have f1:=sub_lin
  unfold Builtin.«wrapper_descriptor.__get__»
  repeat (any_goals (first | assumption | wp_step))
  all_goals exact⟨_,rfl,hs⟩
theorem ga_next (it l : Addr) (i : Nat) (sl : Array (Option Value)) (u : Tok) :
 Meets (Builtin.«object.__getattribute__» ⟨[.ref it,.str (Str.ofString "__next__") u],[]⟩) (fun A R s=>s.heap.get? it=some { cls:=.type "list_iterator",dict:=none,data:=.fields #[.ref l,.int i 0],slots:=sl } ∧
  R (.ok (.ret (.ref s.heap.objs.size))) { s with heap:=s.heap.push (mwO it) }):=
 Meets.of_wp fun prog w A R s hs=>by
  obtain⟨hp,g,dd,tk,os⟩:=s
  obtain⟨hx,hs⟩:=hs
  have hT : (⟨hp,g,dd,tk,os⟩ : Shared).TypeIs (.ref it) "list_iterator":=⟨_,hx,rfl⟩
  have f1:=slot_listiter_next.lookup
  have f2:=ty_next
  have f3:=Th.lookup
  have f4:=wd_set
  have f5:=wd_del
  unfold Builtin.«object.__getattribute__»
  repeat (any_goals (first | assumption | ((with_reducible show wpAny _ _ (call (Value.builtin "wrapper_descriptor.__get__") _ _) _ _ _);refine call_meets Th (T:="wrapper_descriptor") ty_next entry_wd_get (args_wd_get _ _ _) (wd_get it l i sl none) ⟨hx,?_⟩) | wp_step))
  all_goals exact wpAny_pure ⟨_,rfl,hs⟩
theorem get_next {prog : Program}{w : World}{A : Around}{E : Value→Shared→Prop}{s : Shared}{it l : Addr}{i : Nat}{sl : Array (Option Value)}{Q : Value→Shared→Prop}
 (hx : s.heap.get? it=some { cls:=.type "list_iterator",dict:=none,data:=.fields #[.ref l,.int i 0],slots:=sl })
 (h : ∀ tk,Q (.ref s.heap.objs.size) { s with heap:=s.heap.push (mwO it),toks:=tk }) : wpAny (model prog w) A (getAttr (.ref it) (Str.ofString "__next__") true) Q E s:=by
 obtain⟨hp,g,d,tk,os⟩:=s
 have hT : ∀ tk',(⟨hp,g,d,tk',os⟩ : Shared).TypeIs (.ref it) "list_iterator":=fun o_=>⟨_,hx,rfl⟩
 have f3:=Vt.lookup
 have f4:=Vt.bind (.ref it)
 have f5:=li_getattr
 unfold getAttr getAttrBy
 repeat (any_goals (first | assumption | exact hT _ | ((with_reducible show wpAny _ _ (call (Value.builtin "object.__getattribute__") _ _) _ _ _);refine call_meets Vt (hT _) entry_o_ga (args_o_ga _ _) (ga_next it l i sl _) ⟨hx,?_⟩) | wp_step))
 all_goals (show wpAny _ _ (handedOut (Value.ref _)) _ _ _)
 all_goals exact handed_on rfl (h _)
theorem check_next (it : Addr) : checkBoundCall "list_iterator.__next__" ⟨[.ref it],[]⟩=pure ():=by kernel_rfl
theorem Sc : plainId "list_iterator.__next__"=true:=dk
theorem mw_call {prog : Program}{w : World}{A : Around}{E : Value→Shared→Prop}{s : Shared}{m it : Addr}{Q : Value→Shared→Prop}(hm : s.heap.get? m=some (mwO it))
 (h : wpAny (model prog w) A.in1 (Builtin.«list_iterator.__next__» ⟨[.ref it],[]⟩) (fun f s'=>∃ v,f=.done (.ret v)∧Q v s') (fun e s'=>E e s') s) : wpAny (model prog w) A (call (.ref m) []) Q E s:=by
 refine wpAny_call (codeAny_of_tree ?_)
 show wpAny _ A.in1 (callAny (.ref m) ⟨[],[]⟩) _ _ s
 refine wpAny_bind (m:=load m) (wpAny_load hm ?_)
 refine wpAny_ite_true (by rfl) (wpAny_ite_true (by rfl) ?_)
 show wpAny _ _ (do checkBoundCall "list_iterator.__next__" ⟨[.ref it],[]⟩;again (Code.builtin "list_iterator.__next__" ⟨[.ref it],[]⟩)) _ _ _
 refine wpAny_bind (wpAny_of_eq (a:=()) (check_next it) (wpAny_pure ⟨plainId_quiet Sc _,codeAny_builtin entry_listiter_next ?_⟩))
 rw[Around.under_plainId Sc _]
 refine wpAny_mono h (fun f s' q=>?_) fun o_ o_ q=>q
 obtain⟨v,rfl,q⟩:=q
 exact q
theorem c_mw {it l m : Addr}{i j : Nat}{xs : List Value}{v : Value}{Q : Value→Heap→Prop}(H : Led c env g ns vs as os h) (hi : as[j]?=some it) (ho : os[j]?=some (.itL l i)) (zm : Loc g as os m (.ob (mwO it))) (zl : Loc g as os l (.li xs)) (hv : xs[i]?=some v)
 (q : ∀ h',Led c env g ns vs as (os.set j (.itL l (i + 1))) h'→Q v h') : W c A (call (.ref m) []) Q X h:=fun kk=>by
 obtain⟨om,em,rfl⟩:=H.get zm
 obtain⟨o,e,hc,hd⟩:=H.at_ j it _ hi ho
 obtain⟨ol,hol,o_,nl,hdl⟩:=(H.get zl).isList
 refine mw_call (s:=stt c h kk) em ?_
 show wpAny _ _ (field (.ref it) 0 >>= _) _ _ (stt c h kk)
 refine wpAny_bind (wpAny_field (s:=stt c h kk) e hd (x:=.ref l) rfl ?_)
 show wpAny _ _ (if (Value.ref l == Value.none)=true then _ else _) _ _ (stt c h kk)
 rw[if_neg (show ¬ ((Value.ref l == Value.none)=true) from Bool.false_ne_true)]
 show wpAny _ _ (field (.ref it) 1 >>= _) _ _ (stt c h kk)
 refine wpAny_bind (wpAny_field (s:=stt c h kk) e hd (x:=.int i 0) rfl ?_)
 show wpAny _ _ (seqItems? (.ref l) >>= _) _ _ (stt c h kk)
 refine wpAny_bind (wpAny_seqItems (s:=stt c h kk) hol hdl ?_)
 have hx : xs.toArray[i]?=some v:=by simpa using hv
 dsimp only
 rw[Int.toNat_natCast,hx]
 dsimp only
 refine wpAny_bind (wpAny_setField (s:=stt c h kk) e hd (by simp) (wpAny_pure ⟨v,rfl,⟨rfl,rfl,rfl⟩,q _ (H.upd hi ho (Heap.SameBut.update ..) ?_)⟩))
 exact⟨_,Heap.get?_update_self _ e (Obj.isFreed_of_fields (Obj.data_mapFields hd _)),(Obj.cls_mapFields ..).trans hc,by
  rw[Obj.data_mapFields hd];simp[rawInt]⟩
theorem c_mwE {it l m : Addr}{i j : Nat}{xs : List Value}{Q : Value→Heap→Prop}{S : List Addr}(hh : A.handled=none) (H : Led c env g ns vs as os h) (hi : as[j]?=some it) (ho : os[j]?=some (.itL l i)) (zm : Loc g as os m (.ob (mwO it))) (zl : Loc g as os l (.li xs)) (hv : xs.length≤i) :
 W c A (call (.ref m) []) Q (fun e h'=>Ex4 fun ea h₁ as' os'=>An5 (e=.ref ea) (as'=as.eraseIdx j) (os'=os.eraseIdx j) (Led c env g ns vs as' os' h₁) (Fly S h₁ h' ea "StopIteration" none)) h:=fun kk=>by
 obtain⟨om,em,rfl⟩:=H.get zm
 obtain⟨o,e,hc,hd⟩:=H.at_ j it _ hi ho
 obtain⟨ol,hol,o_,nl,hdl⟩:=(H.get zl).isList
 refine mw_call (s:=stt c h kk) em ?_
 show wpAny _ _ (field (.ref it) 0 >>= _) _ _ (stt c h kk)
 refine wpAny_bind (wpAny_field (s:=stt c h kk) e hd (x:=.ref l) rfl ?_)
 show wpAny _ _ (if (Value.ref l == Value.none)=true then _ else _) _ _ (stt c h kk)
 rw[if_neg (show ¬ ((Value.ref l == Value.none)=true) from Bool.false_ne_true)]
 show wpAny _ _ (field (.ref it) 1 >>= _) _ _ (stt c h kk)
 refine wpAny_bind (wpAny_field (s:=stt c h kk) e hd (x:=.int i 0) rfl ?_)
 show wpAny _ _ (seqItems? (.ref l) >>= _) _ _ (stt c h kk)
 refine wpAny_bind (wpAny_seqItems (s:=stt c h kk) hol hdl ?_)
 have hx : xs.toArray[i]?=none:=by simpa using hv
 dsimp only
 rw[Int.toNat_natCast,hx]
 dsimp only
 refine wpAny_bind (wpAny_rule (wpAny_bind (wpAny_setField (s:=stt c h kk) e hd (by simp) ?_)))
 show wpAny _ _ (newExc (.type "StopIteration") [] >>= _) _ _ _
 refine wpAny_bind ?_
 unfold newExc newTuple
 refine wpAny_bind (wpAny_newObj_type ?_ (by size_fits))
 refine wpAny_bind (m:=firstArgMember _ _) (wpAny_of_eq (a:=Value.none) (by rfl) ?_)
 refine wpAny_newObj_type ?_ (by size_fits)
 unfold raiseNew
 refine wpAny_bind (wpAny_handled ?_)
 rw[show A.in1.handled=none from hh]
 refine wpAny_bind (wpAny_pure (wpAny_throw ⟨⟨rfl,rfl,rfl⟩,?_⟩))
 have H1:=H.drop (i:=j) (a:=it) (h':=h.update it (Obj.mapFields (·.setIfInBounds 0 .none))) hi fun b o' hb eb=>by
  rw[Heap.get?_update_other _ _ (Ne.symm hb)];exact eb
 refine⟨_,_,_,_,rfl,rfl,rfl,H1.push { cls:=Value.type "tuple",data:=Data.seq #[] },?_⟩
 refine⟨fun b o' hb o_=>Heap.get?_push_of_some _ hb,fun b o' hb o_=>⟨o'.slots,Heap.get?_push_of_some _ hb⟩,?_,⟨_,_,Heap.get?_push_size _ rfl,rfl,rfl,by rfl⟩,fun T hT=>by cases hT⟩
 cases q : (Heap.push (h.update it (Obj.mapFields (·.setIfInBounds 0 .none))) { cls:=Value.type "tuple",data:=Data.seq #[] }).get? (Heap.push (h.update it (Obj.mapFields (·.setIfInBounds 0 .none))) { cls:=Value.type "tuple",data:=Data.seq #[] }).objs.size with
 | none=>exact q
 | some o'=>exact absurd (Heap.lt_size q) (Nat.lt_irrefl _)
theorem w_attrX {e : Expr}{attr : Str}{pos : Pos}{Q : Value→Heap→Prop}(x : W c A (eval e env) (fun v h₁=>W c A (getAttr v attr true) Q X h₁) X h) (hb : autoParam (attributeBase e attr env (eval e env)=eval e env) zR) : W c A (eval (.Attribute e attr pos) env) Q X h:=fun kk=>by
 have he : eval (.Attribute e attr pos) env=(do
  let o ← attributeBase e attr env (eval e env)
  standAt pos.atName
  let r ← holding [o] (getAttr o attr true)
  letTemporaryGo e o r
  pure r):=arm_eval_Attribute _ _ _ _
 rw[he,hb]
 exact wpAny_bind (wpAny_mono (x kk) (fun v s1 q=>wpAny_bind (wpAny_standAt (wpAny_bind (wpAny_holding (wpAny_mono (Zy q.2 q.1) (fun r s2 q=>wpAny_bind (wpAny_letTemporaryGo (wpAny_pure q))) fun o_ o_ q=>q))))) fun o_ o_ q=>q)
theorem c_iterB {a : Addr}{l : List Value}{Q : Value→Heap→Prop}(H : Led c env g ns vs as os h) (z : Loc g as os a (.li l)) (k : ∀ it h',Led c env g ns vs (as ++ [it]) (os ++ [.itL a 0]) h'→h'.get? it=some { cls:=.type "list_iterator",data:=.fields #[.ref a,.int 0 0] }→Q (.ref it) h') : W c A (call (.builtin "iter") [.ref a]) Q X h:=fun kk=>by
 refine Calls.call_function_entry dk dk kdk_entry_iter (kdk_args_iter _) ?_
 unfold Builtin.«iter»
 refine wpAny_bind (m:=someArgs "iter" 1 2 _) (wpAny_of_eq (a:=[Value.ref a]) (by first | rfl | kernel_rfl!) ?_)
 show wpAny _ _ (pyIter (.ref a) >>= _) _ _ _
 refine wpAny_bind (wpAny_pyIter_list (s:=stt c h kk) (H.get z).isList ?_)
 exact wpAny_pure ⟨_,rfl,⟨rfl,rfl,rfl⟩,k _ _ (H.alloc rfl ⟨rfl,rfl⟩) (Heap.get?_push_size _ rfl)⟩
theorem c_next {it a : Addr}{Q : Value→Heap→Prop}(H : Led c env g ns vs as os h) (e : h.get? it=some { cls:=.type "list_iterator",data:=.fields #[.ref a,.int 0 0] })
 (k : ∀ m h',Led c env g ns vs (as ++ [m]) (os ++ [.ob (mwO it)]) h'→Q (.ref m) h') : W c A (getAttr (.ref it) (Str.ofString "__next__") true) Q X h:=fun kk =>
 get_next (s:=stt c h kk) (l:=a) (i:=0) (sl:=#[]) e fun tk=>⟨⟨rfl,rfl,rfl⟩,k _ _ (H.alloc rfl rfl)⟩
theorem w_call0 {e : Expr}{pos : Pos}{Q : Value→Heap→Prop}(x : W c A (eval e env) (fun v h₁=>Ex2 fun m it=>An3 (v=.ref m) (h₁.get? m=some (mwO it)) (W c A (call (.ref m) []) Q X h₁)) X h)
 (he : autoParam (eval (.Call e [] [] pos) env=(do callWith pos (← eval e env) [] (backTo pos (starEach [] env)) (backToKw pos (keywordEach [] env)))) zR) : W c A (eval (.Call e [] [] pos) env) Q X h:=fun kk=>by
 rw[he]
 refine wpAny_bind (wpAny_mono (x kk) (fun v s1 q=>?_) fun o_ o_ q=>q)
 obtain⟨o1,m,it,rfl,hm,q⟩:=q
 show wpAny (mdl c) A (callWith pos (.ref m) [] [] []) _ _ s1
 unfold callWith
 refine wpAny_bind (wpAny_holding (PySem.evalArgs_none (wpAny_bind (wpAny_standAt ?_))))
 refine wpAny_bind (m:=keeperOf (.ref m)) ?_
 unfold keeperOf
 refine wpAny_bind (wpAny_load hm ?_)
 refine wpAny_of_eq (a:=Keeper.machine) (by kernel_rfl) ?_
 exact wpAny_bind (wpAny_mono (Zy q o1) (fun r s2 hr=>wpAny_bind (wpAny_holding (wpAny_point (wpAny_pure hr)))) fun o_ o_ x=>x)
noncomputable abbrev seS (c : Cx) (S : Int→Bool) (n : Nat) : Sp:=.pr fun o=>o.SetObjOf (intKind prg c.w) S n
theorem c_setNew {Q : Value→Heap→Prop}(H : Led c env g ns vs as os h) (k : ∀ a h',Led c env g ns vs (as ++ [a]) (os ++ [seS c (fun o_=>false) 0]) h'→Q (.ref a) h') : W c A (call (.type "set") []) Q X h:=fun kk =>
 call_set_0 (s:=stt c h kk) fun led=>⟨⟨rfl,rfl,rfl⟩,k _ _ (H.alloc rfl (setObjOf_fresh led))⟩
theorem c_inS {a : Addr}{S : Int→Bool}{n : Nat}{k : Int}{t : Tok}{Q : Value→Heap→Prop}(H : Led c env g ns vs as os h) (z : Loc g as os a (seS c S n)) (hn : n < scanBound) (q : Q (.bool (S k)) h) : W c A (compareOp .In (.int k t) (.ref a)) Q X h:=fun kk=>by
 obtain⟨o,e,so⟩:=H.get z
 exact wpAny_inSet_of (knd:=intKind prg c.w) (k:=k) (s:=stt c h kk) (by simp[intKind,Value.isInt]) rfl (so.setOf e hn) ⟨⟨rfl,rfl,rfl⟩,q⟩
theorem c_addS {a : Addr}{S : Int→Bool}{n j : Nat}{k : Int}{t : Tok}{Q : Value→Heap→Prop}(H : Led c env g ns vs as os h) (ha : as[j]?=some a) (ho : os[j]?=some (seS c S n)) (hn : n + 1 < scanBound) (q : ∀ h',Led c env g ns vs as (os.set j (seS c (fun k'=>S k' || decide (k'=k)) (if S k then n else n + 1))) h'→Q .none h') :
 W c A (call (.builtin "set.add") [.ref a,.int k t]) Q X h:=fun kk=>by
 obtain⟨o,e,so⟩:=H.at_ j a _ ha ho
 refine call_set_add (knd:=intKind prg c.w) (k:=k) (s:=stt c h kk) (by simp[intKind,Value.isInt]) rfl (so.setOf e (by exact r7 ‹_›)) hn fun h' hs hS=>⟨⟨rfl,rfl,rfl⟩,q h' (H.upd ha ho hs ?_)⟩
 obtain⟨o',e',so'⟩:=hS.objOf
 exact⟨o',e',so'⟩
theorem sb_whileE {t : Expr}{b o rest : List Stmt}{p : Pos}{Q : Flow→Heap→Prop}(I : Nat→Heap→Prop) (n : Nat) (h0 : ∀ h,Led c env g ns vs as os h→I n h)
 (turn : let I':=I;∀ n,let QL:=LoopQ (Less I' n) (W c A (execs rest env) Q X) Q;∀ h,I' n h→W c A (isTrue t env (eval t env)) (fun d h'=>if d=true then W c A (execs b env) QL noX h' else W c A (execs o env) (Ml c A env rest Q X) noX h') noX h) : SB c A env (.While t b o p :: rest) g ns vs as os Q X:=fun h H=>Yz fun kk=>by
 refine wpAny_While (codeAny_mono (codeAny_whileLoop (I:=fun n s=>Okk c s∧I n s.heap) (R:=fun r s'=>match r with | .ok f=>Okk c s'∧(match f with | .next=>W c A (execs rest env) Q X s'.heap | f=>Q f s'.heap) | .error _=>False) (fun n s hI=>?_) n ⟨⟨rfl,rfl,rfl⟩,h0 h H⟩) fun r s' q=>?_)
 ·rw[hI.1.eq]
  refine wpAny_mono (turn n s.heap hI.2 _) (fun d s1 q=>?_) fun o_ o_ q=>q.2.elim
  cases d with
  | true =>
   simp only[if_true] at q ⊢
   refine wpAny_mono (Zy q.2 q.1) (fun f s2 r=>?_) fun o_ o_ r=>r.2.elim
   cases f with
   | next=>obtain⟨m,a,b⟩:=r.2;exact⟨m,a,r.1,b⟩
   | cont=>obtain⟨m,a,b⟩:=r.2;exact⟨m,a,r.1,b⟩
   | brk=>exact r
   | ret v=>exact r
  | false =>
   simp only[Bool.false_eq_true,if_false] at q ⊢
   refine wpAny_mono (Zy q.2 q.1) (fun f s2 r=>?_) fun o_ o_ r=>r.2.elim
   cases f <;> exact r
 ·cases r with
  | ok f=>cases f <;> exact q
  | error e=>exact q.elim
noncomputable abbrev dK (c : Cx) (l : List (Int × Value)) : Sp:=.pr fun o=>o.ExactDict∧∃ es ep,o.data=.dict es ep∧KeysOf (intKind prg c.w) es∧Pairs (intKind prg c.w) es.toList l∧(l.map (·.1)).Nodup
theorem Uo {d : Addr}{l : List (Int × Value)}(z : At h d (dK c l)) : h.DictOf (intKind prg c.w) d l:=by obtain⟨o,e,x,es,ep,r⟩:=z;exact⟨o,es,ep,e,x,r⟩
theorem of_dictOf {d : Addr}{l : List (Int × Value)}(z : h.DictOf (intKind prg c.w) d l) : At h d (dK c l):=by obtain⟨o,es,ep,e,x,r⟩:=z;exact⟨o,e,x,es,ep,r⟩
theorem EI.pairs {es : List DictEntry}{l : List (Int × Value)}(p : EI es l) : Pairs (intKind prg c.w) es l:=by
 induction p with
 | nil=>exact .nil
 | cons x r ih =>
  obtain⟨o_,⟨t,hk⟩,hv⟩:=x
  exact .cons (by rw[hk];exact intKind_is prg c.w _ t) hv ih
theorem Sx {d : Addr}{l : List (Int × Value)}(z : At h d (dI l)) (hn : (l.map (·.1)).Nodup) : At h d (dK c l):=by
 obtain⟨o,e,es,n,rfl,x⟩:=z
 refine⟨_,e,⟨rfl,rfl,rfl⟩,es.toArray,n,rfl,fun e he=>?_,x.pairs,hn⟩
 obtain⟨k,t,h1,h2⟩:=x.keys e (by simpa using he)
 exact⟨k,by rw[h1];exact intKind_is prg c.w k t,h2⟩
theorem va_look (l : List (Int × Value)) (k : Int) : valueAt l k=l.lookup k:=by
 induction l with
 | nil=>rfl
 | cons p l ih =>
  obtain⟨a,b⟩:=p
  unfold valueAt at ih ⊢
  by_cases hk : a=k
  ·subst hk;simp
  ·have h1 : (k == a)=false:=by simpa using Ne.symm hk
   simp only[List.find?_cons,hk,decide_false,List.lookup_cons,h1];exact ih
theorem c_kin {d : Addr}{l : List (Int × Value)}{k : Int}{t : Tok}{Q : Value→Heap→Prop}(H : Led c env g ns vs as os h) (z : Loc g as os d (dK c l)) (q : Q (.bool (l.lookup k).isSome) h) : W c A (compareOp .In (.int k t) (.ref d)) Q X h:=fun kk =>
 wpAny_in_intMap (s:=stt c h kk) (Uo (H.get z)).mapOf.intMap ⟨⟨rfl,rfl,rfl⟩,by rw[va_look];exact q⟩
theorem c_kset {d : Addr}{l : List (Int × Value)}{k : Int}{t : Tok}{v : Value}{j : Nat}{Q : Unit→Heap→Prop}(H : Led c env g ns vs as os h) (ha : as[j]?=some d) (ho : os[j]?=some (dK c l)) (hk : l.lookup k=none) (hz : l.length < 900)
 (q : ∀ h',Led c env g ns vs as (os.set j (dK c (l ++ [(k,v)]))) h'→Q () h') : W c A (setItem (.ref d) (.int k t) v) Q X h:=fun kk=>by
 refine wpAny_setItem_pairs (knd:=intKind prg c.w) (k:=k) (s:=stt c h kk) (intKind_is prg c.w k t) (Uo (H.at_ j d _ ha ho)) (fun h' hm hs=>⟨⟨rfl,rfl,rfl⟩,q h' (H.upd ha ho hs ?_)⟩) (by rw[sizeLine_eq];exact q3 ‹_› (by decide))
 have : stored l k v=l ++ [(k,v)]:=by
  unfold stored
  rw[if_neg]
  intro hany
  obtain⟨p,hp,e⟩:=List.any_eq_true.mp hany
  rw[List.lookup_eq_none_iff] at hk
  have:=hk p hp
  simp at e this
  exact this e.symm
 rw[this] at hm
 exact of_dictOf hm
theorem c_kdel {d : Addr}{l : List (Int × Value)}{k : Int}{t : Tok}{v : Value}{j : Nat}{Q : Unit→Heap→Prop}(H : Led c env g ns vs as os h) (ha : as[j]?=some d) (ho : os[j]?=some (dK c (l ++ [(k,v)]))) (hz : l.length < 900)
 (q : ∀ h',Led c env g ns vs as (os.set j (dK c l)) h'→Q () h') : W c A (delItem (.ref d) (.int k t)) Q X h:=fun kk=>by
 have hd:=Uo (H.at_ j d _ ha ho)
 have nd : ((l ++ [(k,v)]).map (·.1)).Nodup:=by obtain⟨o_,o_,o_,o_,o_,o_,o_,o_,n⟩:=hd;exact n
 have hk : k ∉ l.map (·.1):=fun q=>by
  rw[List.map_append,List.nodup_append] at nd
  exact nd.2.2 k q k (by simp) rfl
 refine wpAny_delItem_slot (s:=stt c h kk) hd.typeIs (by decide) PySem.F.slot_dict_delitem (call_meetsIn PySem.F.slot_dict_delitem hd.typeIs PySem.F.entry_dict_delitem (PySem.F.args_dict_delitem_2 _ _) (meets_dict_delitem_pairs (intKind prg c.w) d (intKind_is prg c.w k t)) ⟨_,hd,by simp;rw[sizeLine_eq];exact q1 ‹_› (by decide),?_,fun h' hm hs=>⟨⟨rfl,rfl,rfl⟩,q h' (H.upd ha ho hs ?_)⟩⟩)
 ·simp[valueAt,List.find?_append]
 ·have : without (l ++ [(k,v)]) k=l:=by
   have:=without_of_not_mem l k hk
   unfold without at this ⊢
   rw[List.filter_append,this];simp
  rw[this] at hm
  exact of_dictOf hm
theorem w_del {o i : Expr}{p p' : Pos}{rest : List Stmt}{Q : Flow→Heap→Prop}(x : W c A (eval o env) (fun ov h₁=>W c A (eval i env) (fun iv h₂=>W c A (delItem ov iv) (fun o_ h₃=>W c A (execs rest env) Q X h₃) X h₂) X h₁) X h) : W c A (execs (.Delete [.Subscript o i p'] p :: rest) env) Q X h:=Yz fun kk=>by
 exact wpAny_Delete (wpAny_deleteEach_cons (delete_Subscript (wpAny_mono (x kk) (fun ov s1 q=>wpAny_mono (Zy q.2 q.1) (fun iv s2 q=>wpAny_mono (Zy q.2 q.1) (fun o_ s3 q=>wpAny_deleteEach_nil q) fun o_ o_ q=>q) fun o_ o_ q=>q) fun o_ o_ q=>q)))
theorem wk_keys {it d : Addr}{l : List (Int × Value)}{ep : Nat}(hh : A.handled=none) : Wk c A it l.length (fun i=>.pr fun o=>o.cls=.type "dict_keyiterator"∧o.data=.fields #[.ref d,.int i 0,.int l.length 0,.int ep 0]) (fun i v=>∃ k x,l[i]?=some (k,x)∧isI k v) (fun g=>g.DictAt (intKind prg c.w) d l ep) where
 mono g g' k x:=x.keep k
 nxt H h1 h2 d hi:=fun kk=>by
  obtain⟨o,e,hc,hd⟩:=H.at_ _ _ _ h1 h2
  obtain⟨⟨k,x⟩,hx⟩ : ∃ p,l[_]?=some p:=⟨_,Nc hi⟩
  refine wpAny_pyNext_dict_item (s:=stt c _ kk) (knd:=intKind prg c.w) ⟨o,e,hc,hd⟩ (d.keep H.keep) hx fun key h' hkey hit hs=>⟨⟨rfl,rfl,rfl⟩,key,rfl,⟨k,x,hx,?_⟩,H.upd h1 h2 hs hit⟩
  cases key <;> simp[intKind,Value.isInt] at hkey
  subst hkey;exact⟨_,rfl⟩
 stp H h1 h2 d:=fun kk=>by
  obtain⟨o,e,hc,hd⟩:=H.at_ _ _ _ h1 h2
  exact wpAny_pyNext_dict_end (s:=stt c _ kk) (knd:=intKind prg c.w) hh ⟨o,e,hc,hd⟩ (d.keep H.keep) (by simp) fun h' he=>⟨⟨rfl,rfl,rfl⟩,rfl,H.drop h1 fun b o hb e=>he b o hb e⟩
 re H h1 h2:=fun kk=>by
  obtain⟨o,e,hc,hd⟩:=H.at_ _ it _ h1 h2
  exact wpAny_pyIter_keyiter (s:=stt c _ kk) ⟨o,e,hc,hd⟩ ⟨⟨rfl,rfl,rfl⟩,rfl,rfl⟩
theorem wk_vals {it d : Addr}{l : List (Int × Value)}{ep : Nat}(hh : A.handled=none) : Wk c A it l.length (fun i=>.pr fun o=>o.cls=.type "dict_valueiterator"∧o.data=.fields #[.ref d,.int i 0,.int l.length 0,.int ep 0]) (fun i v=>∃ k,l[i]?=some (k,v)) (fun g=>g.DictAt (intKind prg c.w) d l ep) where
 mono g g' k x:=x.keep k
 nxt H h1 h2 d hi:=fun kk=>by
  obtain⟨o,e,hc,hd⟩:=H.at_ _ _ _ h1 h2
  obtain⟨⟨k,x⟩,hx⟩ : ∃ p,l[_]?=some p:=⟨_,Nc hi⟩
  exact wpAny_pyNext_values_item (s:=stt c _ kk) (knd:=intKind prg c.w) ⟨o,e,hc,hd⟩ (d.keep H.keep) hx fun h' hit hs=>⟨⟨rfl,rfl,rfl⟩,x,rfl,⟨k,hx⟩,H.upd h1 h2 hs hit⟩
 stp H h1 h2 d:=fun kk=>by
  obtain⟨o,e,hc,hd⟩:=H.at_ _ _ _ h1 h2
  exact wpAny_pyNext_values_end (s:=stt c _ kk) (knd:=intKind prg c.w) hh ⟨o,e,hc,hd⟩ (d.keep H.keep) (by simp) fun h' he=>⟨⟨rfl,rfl,rfl⟩,rfl,H.drop h1 fun b o hb e=>he b o hb e⟩
 re H h1 h2:=fun kk=>by
  obtain⟨o,e,hc,hd⟩:=H.at_ _ it _ h1 h2
  exact wpAny_pyIter_valiter (s:=stt c _ kk) ⟨o,e,hc,hd⟩ ⟨⟨rfl,rfl,rfl⟩,rfl,rfl⟩
theorem w_iterK {d : Addr}{l : List (Int × Value)}{ep : Nat}{Q : Value→Heap→Prop}(H : Led c env g ns vs as os h) (hd : (d == sysModules)=false) (z : h.DictAt (intKind prg c.w) d l ep)
 (k : ∀ it h',Led c env g ns vs (as ++ [it]) (os ++ [.pr fun o=>o.cls=.type "dict_keyiterator"∧o.data=.fields #[.ref d,.int (0 : Nat) 0,.int l.length 0,.int ep 0]]) h'→Q (.ref it) h') : W c A (pyIter (.ref d)) Q X h:=fun kk =>
 wpAny_pyIter_dict (s:=stt c h kk) (knd:=intKind prg c.w) hd z ⟨⟨rfl,rfl,rfl⟩,k _ _ (H.alloc rfl ⟨rfl,rfl⟩)⟩
theorem c_vals {d : Addr}{l : List (Int × Value)}{ep : Nat}{Q : Value→Heap→Prop}(H : Led c env g ns vs as os h) (hd : (d == sysModules)=false) (z : h.DictAt (intKind prg c.w) d l ep)
 (k : ∀ it h',Led c env g ns vs (as ++ [it]) (os ++ [.pr fun o=>o.cls=.type "dict_valueiterator"∧o.data=.fields #[.ref d,.int (0 : Nat) 0,.int l.length 0,.int ep 0]]) h'→Q (.ref it) h') :
 W c A (call (.builtin "dict.values") [.ref d]) (fun v h₁=>W c A (pyIter v) Q X h₁) X h:=fun kk=>by
 refine call_meetsIn (s:=stt c h kk) PySem.F.slot_dict_values z.dictOf.typeIs PySem.F.entry_dict_values (PySem.F.args_dict_values_1 _) (meets_dict_values (intKind prg c.w) d hd) ⟨⟨l,z.dictOf⟩,⟨rfl,rfl,rfl⟩,fun k2=>?_⟩
 exact wpAny_pyIter_values (s:=stt c _ k2) (knd:=intKind prg c.w) ⟨_,Heap.get?_push_size _ rfl,rfl,rfl⟩ (z.push _) ⟨⟨rfl,rfl,rfl⟩,k _ _ ((H.push _).alloc rfl ⟨rfl,rfl⟩)⟩
theorem ev_last {l i : Expr}{p : Pos}{a : Addr}{xs : List Value}{v : Value}(x : EV c A env l g ns vs as os (·=.ref a)) (y : EV c A env i g ns vs as os (isI (-1))) (z : Loc g as os a (.li (xs ++ [v])))
 (hz : xs.length < 100000)
 (hs : autoParam (∀ t,subscripted i false (.ref a) (.int (-1) t)=operate [.ref a,.int (-1) t] (getItem (.ref a) (.int (-1) t))) zV) : EV c A env (.Subscript l i p) g ns vs as os (·=v):=fun h H kk=>by
 refine Subscript_ (W_two (t:=fun a b=>subscriptTail l i a b) x y H (fun a' b ha hb k2=>?_) kk)
 obtain⟨t,rfl⟩:=hb
 subst ha
 have hl:=(H.get z).isList
 have e : (-1 + ((xs.length : Int) + 1)).toNat=xs.length:=by rw[Int.add_comm,Int.add_neg_cancel_right];exact Int.toNat_natCast _
 have hg : (xs ++ [v]).toArray[(-1 + ((xs ++ [v]).toArray.size : Int)).toNat]?=some v:=by simp[e]
 exact tail_any (s:=stt c h k2) (Heap.IsList.typeIs (s:=stt c h k2) hl) slot_list_getitem.lookup (wpAny_getItem_list_neg (s:=stt c h k2) (k:=-1) (x:=v) hl (by decide) (by simp;lia) (by decide) hg ⟨⟨rfl,rfl,rfl⟩,rfl,rfl⟩) (hs t)
noncomputable abbrev Sw : FuncData:=Xl (me 12 8) "TopologicalSorter._find_cycle" .none (.str "cpy313.graphlib" 330) (.ref 172)
noncomputable abbrev psFC : List PySem.Str:=["self"]
noncomputable abbrev rsFC : List PySem.Str:=["n2i","stack","itstack","seen","node2stacki","node"]
theorem F_fc : FnK 173 Sw (fnB (me 12 8)) (psFC ++ rsFC):=⟨fun P=>by kernel_rfl,fun P=>by kernel_rfl,rfl,by kernel_rfl,dk,dk,dk,rfl,rfl,by kernel_rfl,by kernel_rfl⟩
theorem B_fc (a : Value) : bindArgs Sw ⟨[a],[]⟩=pure (psFC.zip [a]):=by kernel_rfl
theorem n_set (P : Params) : nsIn (K P) mainGlobals "set"=some none:=by kernel_rfl
theorem n_iter (P : Params) : nsIn (K P) mainGlobals "iter"=some none:=by kernel_rfl
theorem Jq (P : Params) : nsIn (K P) mainGlobals "StopIteration"=some none:=by kernel_rfl
theorem boot_iter' : bootBuiltins "iter"=some (.builtin "iter"):=dk
theorem Xr : bootBuiltins "StopIteration"=some (.type "StopIteration"):=dk
structure FE where
 r : NR
 i : Nat
 t : Tok
 v : Value
 it : Addr
 m : Addr
noncomputable def fS (s : List FE) : List Value:=s.map fun e=>.int e.r.node e.t
noncomputable def fM (s : List FE) : List Value:=s.map fun e=>.ref e.m
noncomputable def fD (s : List FE) : List (Int × Value):=s.map fun e=>(e.r.node,e.v)
noncomputable def fI (s : List FE) : List Addr:=s.map (·.it)
noncomputable def fO (s : List FE) : List Sp:=s.map fun e=>.itL e.r.S e.i
noncomputable def un (w : NR→Nat) (S : Int→Bool) (nd : List NR) : Nat:=((nd.filter fun r=>!S r.node).map w).sum
theorem un_out (w : NR→Nat) (S : Int→Bool) (k : Int) (nd : List NR) (h : k ∉ nd.map (·.node)) : un w (fun k'=>S k' || decide (k'=k)) nd=un w S nd:=by
 unfold un
 rw[List.filter_congr (q:=fun r=>!S r.node) fun x hx=>by
  show (!(S x.node || decide (x.node=k)))=!S x.node
  have m : x.node∈nd.map (·.node):=List.mem_map_of_mem hx
  rw[decide_eq_false fun e : x.node=k=>h (by rw[e] at m;exact m),Bool.or_false]]
theorem un_add (w : NR→Nat) (S : Int→Bool) (nd : List NR) (r : NR) (hn : (nd.map (·.node)).Nodup) (h : r∈nd) (hS : S r.node=false) : un w S nd=un w (fun k'=>S k' || decide (k'=r.node)) nd + w r:=by
 induction nd with
 | nil=>cases h
 | cons x nd ih =>
  have hx:=(List.nodup_cons.mp hn).1
  rcases List.mem_cons.mp h with rfl | h
  ·have:=un_out w S r.node nd hx
   unfold un at this ⊢
   simp only[List.filter_cons,hS,Bool.not_false,if_true,decide_true,Bool.or_true,Bool.not_true,Bool.false_eq_true,if_false,List.map_cons,List.sum_cons] at this ⊢
   rw[this];exact Nat.add_comm ..
  ·have ih:=ih (List.nodup_cons.mp hn).2 h
   have hne : x.node≠r.node:=fun e=>hx (by
    have hm : r.node∈nd.map (·.node):=List.mem_map_of_mem h
    rw[← e] at hm;exact hm)
   unfold un at ih ⊢
   dsimp only at ih ⊢
   simp only[List.filter_cons,decide_eq_false hne,Bool.or_false]
   split
   ·simp only[List.map_cons,List.sum_cons];rw[ih];exact (Nat.add_assoc ..).symm
   ·exact ih
noncomputable def mea (nd : List NR) (S : Int→Bool) (s : List FE) : Nat:=un (fun r=>r.sc.length + 2) S nd + (s.map fun e=>e.r.sc.length - e.i + 1).sum
theorem mea_len (nd : List NR) (S : Int→Bool) (s : List FE) : s.length≤mea nd S s:=by
 unfold mea
 have : s.length≤(s.map fun e=>e.r.sc.length - e.i + 1).sum:=by
  induction s with
  | nil=>simp
  | cons e s ih=>simp;exact S7 (S9 (Nat.add_comm ..)) (Nat.add_le_add (Nat.le_add_left 1 (e.r.sc.length - e.i)) ih)
 exact S7 this (Nat.le_add_left ..)
structure Good (c : Cx) (G : Heap) (fo : List (Addr × (Str→Option Value))) (g : Bas) (nd : List NR) (rk : Int→Nat) (S : Int→Bool) (n : Nat) (s : List FE) : Prop where
 st : G.StaysIn g.hp
 fo : g.fo=fo
 el : ∀ e∈s,e.r∈nd∧e.i≤e.r.sc.length∧S e.r.node=true∧At g.hp e.m (.ob (mwO e.it))
 pw : s.Pairwise fun a b=>rk a.r.node < rk b.r.node
 cnt : n + un (fun o_=>1) S nd=nd.length
 bd : mea nd S s < 800
theorem w_fnO {f : Addr}{fd : FuncData}{body : List Stmt}{ps rs : List Str}{xs : List Value}{Q : Value→Heap→Prop}(H : Led c env g ns vs as os h) (FA : FR A (env.locals :: g.fs)) (F : FnK f fd body (ps ++ rs)) (hroom : A.depth < recursionLimit)
 (hb : bindArgs fd ⟨xs,[]⟩=pure (ps.zip xs)) (hl : ps.length=xs.length) (hcell : ∀ x∈fd.scope.names,x.2≠.cell)
 (k : ∀ L h₁,FO (A.deeper (callEnv fd L f)) (callEnv fd L f) (subB g h env ns vs as).fs→Led c (callEnv fd L f) (subB g h env ns vs as) (ps ++ rs) (xs.map some ++ List.replicate rs.length none) as os h₁ →
  W c (A.deeper (callEnv fd L f)) (execs body (callEnv fd L f)) (fun fl h₂=>Q (Js fl) h₂) noX h₁) : W c A (call (.ref f) xs) Q X h:=
 Us H F hroom hb hl hcell fun L h₁ H1=>k L h₁ (FA.deep F.knd rfl) H1
theorem w_ifJ {t : Expr}{b o rest : List Stmt}{p : Pos}{Q : Flow→Heap→Prop}{d : Bool}(J : Heap→Prop) (H : Led c env g ns vs as os h) (x : TV c A env t g ns vs as os d)
 (y : d=true→let Q' : Flow→Heap→Prop:=fun f h'=>An2 (f=.next) (J h');W c A (execs b env) Q' X h) (z : d=false→let Q' : Flow→Heap→Prop:=fun f h'=>An2 (f=.next) (J h');W c A (execs o env) Q' X h)
 (k : ∀ h,J h→W c A (execs rest env) Q X h) : W c A (execs (.If t b o p :: rest) env) Q X h:=by
 refine Uq (Xs x H ?_)
 cases d with
 | true=>exact ifT rfl (Zh (y rfl) (fun f h' r=>by obtain⟨rfl,r⟩:=r;exact k h' r) fun o_ o_ r=>r)
 | false=>exact ifF (by decide) (Zh (z rfl) (fun f h' r=>by obtain⟨rfl,r⟩:=r;exact k h' r) fun o_ o_ r=>r)
theorem w_setSub {o i : Expr}{value : Expr}{p p' : Pos}{rest : List Stmt}{Q : Flow→Heap→Prop}(x : W c A (eval value env) (fun v h₁=>W c A (eval o env) (fun ov h₂=>W c A (eval i env) (fun iv h₃=>W c A (setItem ov iv v) (fun o_ h4=>W c A (execs rest env) Q X h4) X h₃) X h₂) X h₁) X h)
 (hs : autoParam (swapsWith value (some (.Subscript o i p')) p.line env=pure false) zR) : W c A (execs (.Assign [.Subscript o i p'] value p :: rest) env) Q X h:=Yz fun kk =>
 wpAny_Assign_Subscript (wpAny_mono (x kk) (fun v s1 q=>wpAny_mono (Zy q.2 q.1) (fun ov s2 q=>wpAny_mono (Zy q.2 q.1) (fun iv s3 q=>Zy q.2 q.1) fun o_ o_ q=>q) fun o_ o_ q=>q) fun o_ o_ q=>q) hs
theorem c_inS' {a : Addr}{S : Int→Bool}{n : Nat}{k : Int}{t : Tok}(z : Loc g as os a (seS c S n)) (hn : n < scanBound) (h : Heap) (H : Led c env g ns vs as os h) (v1 v2 : Value) (h1 : v1=.int k t) (h2 : v2=.ref a) : W c A (compareOp .In v1 v2) (fun v h'=>h'=h∧v=.bool (S k)) noX h:=by
 refine Zl ?_
 intro Q'
 subst h1;subst h2;exact c_inS H z hn ⟨rfl,rfl⟩
theorem c_kin' {a : Addr}{l : List (Int × Value)}{k : Int}{t : Tok}(z : Loc g as os a (dK c l)) (h : Heap) (H : Led c env g ns vs as os h) (v1 v2 : Value) (h1 : v1=.int k t) (h2 : v2=.ref a) : W c A (compareOp .In v1 v2) (fun v h'=>h'=h∧v=.bool (l.lookup k).isSome) noX h:=by
 refine Zl ?_
 intro Q'
 subst h1;subst h2;exact c_kin H z ⟨rfl,rfl⟩
noncomputable def kiS (D : Addr) (n ep i : Nat) : Sp:=.pr fun o=>o.cls=.type "dict_keyiterator"∧o.data=.fields #[.ref D,.int i 0,.int n 0,.int ep 0]
noncomputable def FL (c : Cx) (L : Addr) (g : Bas) (x D st its se n2 it : Addr) (as : List Addr) (os : List Sp) (sp : Sp) (s : List FE) (S : Int→Bool) (n : Nat) (nv : Value) (h : Heap) : Prop:=
 Led c (callEnv Sw L 173) g (psFC ++ rsFC) [some (.ref x),some (.ref D),some (.ref st),some (.ref its),some (.ref se),some (.ref n2),some nv] (as ++ ([st,its,se,n2,it] ++ fI s)) (os ++ ([.li (fS s),.li (fM s),seS c S n,dK c (fD s),sp] ++ fO s)) h
theorem un_all (nd : List NR) : un (fun o_=>1) (fun o_=>false) nd=nd.length:=by
 unfold un;rw[List.filter_eq_self.mpr (by simp)]
 induction nd with
 | nil=>rfl
 | cons r nd ih=>simp only[List.map_cons,List.sum_cons,List.length_cons];lia
theorem fS_snoc (s : List FE) (e : FE) : fS (s ++ [e])=fS s ++ [.int e.r.node e.t]:=by simp[fS]
theorem fM_snoc (s : List FE) (e : FE) : fM (s ++ [e])=fM s ++ [.ref e.m]:=by simp[fM]
theorem fD_snoc (s : List FE) (e : FE) : fD (s ++ [e])=fD s ++ [(e.r.node,e.v)]:=by simp[fD]
theorem fI_snoc (s : List FE) (e : FE) : fI (s ++ [e])=fI s ++ [e.it]:=by simp[fI]
theorem fO_snoc (s : List FE) (e : FE) : fO (s ++ [e])=fO s ++ [.itL e.r.S e.i]:=by simp[fO]
theorem fD_look {s : List FE}{k : Int}(h : ∀ e∈s,e.r.node≠k) : (fD s).lookup k=none:=by
 rw[List.lookup_eq_none_iff]
 intro p hp
 obtain⟨e,he,rfl⟩:=Ng hp
 simpa using Ne.symm (h e he)
theorem Va (nd : List NR) (S : Int→Bool) (s : List FE) (e : FE) : mea nd S (s ++ [e])=mea nd S s + (e.r.sc.length - e.i + 1):=by unfold mea;simp;lia
theorem hdS {j : Nat}{a : Addr}{S : Int→Bool}{n : Nat}(H : Led c env g ns vs as os h) (ha : as[j]?=some a) (ho : os[j]?=some (seS c S n)) : (∀ k,(stt c h k).TypeIs (.ref a) "set")∧(∀ b,(Value.ref a)=.ref b→∃ ob,h.get? b=some ob∧ob.dict=none):=by
 obtain⟨o,e,so⟩:=H.at_ j a _ ha ho
 exact⟨fun k=>⟨_,e,so.1.1⟩,fun b hb=>by cases hb;exact⟨_,e,so.1.2.1⟩⟩
theorem Sg {f : Str}{fp pos : Pos}{T : String}{Q : Value→Heap→Prop}(H : Led c env g ns vs as os h) (hf : EV c A env (.Name f fp) g ns vs as os (·=.type T)) (x : W c A (call (.type T) []) Q X h) : W c A (eval (.Call (.Name f fp) [] [] pos) env) Q X h:=fun k =>
 wpAny_Call_Name_kw (wpAny_mono (hf h H k) (fun v s1 q=>by
  rw[q.1.eq,q.2.1,q.2.2]
  exact PyProof.Rows.callWith_type0 (x _)) fun o_ o_ q=>⟨q.1,q.2.elim⟩)
theorem fc_ok {x dxS D : Addr}{l : List (Str × Value)}{nd : List NR}{F : Int→Int}{rk : Int→Nat}(hA : Rm A 3) (hh : A.handled=none) (FA : FR A (env.locals :: g.fs)) (Z : TF g.hp x dxS D nd) (DS : Loc g as os dxS (atS l)) (hl : l.lookup (Str.ofString "_node2info")=some (.ref D))
 (hrec : ∀ r∈nd,∃ j : Nat,as[j]?=some r.N∧os[j]?=some (nS F r)) (hsc : ∀ r∈nd,∀ k∈r.sc,k.1∈nd.map (·.node)∧rk r.node < rk k.1) (hz : un (fun r=>r.sc.length + 2) (fun o_=>false) nd < 800)
 (H : Led c env g ns vs as os h) : W c A (call (.ref 173) [.ref x]) (fun v h'=>v=.none∧Led c env g ns vs as os h') noX h:=by
 refine Zl ?_
 intro Q'
 refine w_fnO H FA F_fc hA.depth (B_fc _) rfl dk fun L h₁ FO1 H1=>?_
 have Z1 : TF (subB g h env ns vs as).hp x dxS D nd:=Z.mono H.stay
 obtain⟨ep,hat⟩:=(Uo (Sx (c:=c) Z1.D (by simpa [nM,Function.comp_def] using Z1.nd))).dictAt
 have hlen : nd.length≤un (fun r=>r.sc.length + 2) (fun o_=>false) nd:=by
  unfold un;rw[List.filter_eq_self.mpr (by simp)]
  clear hsc hrec Z Z1 hat hz
  induction nd with
  | nil=>simp
  | cons r nd ih=>simp;exact S7 (S9 (Nat.add_comm ..)) (Nat.add_le_add (Nat.le_add_left 1 (r.sc.length + 1)) ih)
 refine (?_ : SB c _ _ _ _ _ _ _ _ _ _) h₁ H1
 refine Zs 1 rfl rfl (Z0 (Za 0 rfl rfl) (.fz Z1.I) (DS.sub H) Vv hl) ?_
 rintro o_ rfl h₂ H2
 refine Zz (Je (Zd ⟨by simp,Zp 2 rfl rfl (H2.newL []) fun h₃ H3=>?_⟩))
 obtain⟨st,hst⟩ : ∃ st,st=h₂.objs.size:=⟨_,rfl⟩
 rw[← hst] at H3
 refine Zz (Je (Zd ⟨by simp,Zp 3 rfl rfl (H3.newL []) fun h4 H4=>?_⟩))
 obtain⟨its,hits⟩ : ∃ st,st=h₃.objs.size:=⟨_,rfl⟩
 rw[← hits] at H4
 refine Zz (Sg H4 (Zr (by rfl) n_set PyProof.Rows.boot_set) (c_setNew H4 fun se h5 H5=>Zp 4 rfl rfl H5 fun h6 H6=>?_))
 refine Zz (w_dict0 H6 fun n2 h7 o_ H7=>Zp 5 rfl rfl H7 fun h8 H8=>?_)
 have hl0 : as.length=os.length:=H.len
 have H9:=H8.spec (o':=dK c []) (Ze rfl) (Ze (by simp[hl0])) (Sx (H8.at_ _ _ _ (Ze rfl) (Ze (by simp[hl0]))) (by simp))
 rw[Yt (by simp[hl0])] at H9
 clear H8 H7 H6 H5 H4 H3 H2 H1
 have hA':=hA.deep (callEnv Sw L 173)
 have hh' : (A.deeper (callEnv Sw L 173)).handled=none:=hh
 have hfo : ∀ {g' : Bas},g'.fo=(subB g h env ns vs as).fo→FO (A.deeper (callEnv Sw L 173)) (callEnv Sw L 173) g'.fs:=fun {g'} e=>by
  rw[show g'.fs=(subB g h env ns vs as).fs by unfold Bas.fs;rw[e]];exact FO1
 have e0 : as ++ [st] ++ [its] ++ [se] ++ [n2]=as ++ [st,its,se,n2]:=by simp
 have e1 : os ++ [Sp.li []] ++ [Sp.li []] ++ [seS c (fun o_=>false) 0] ++ [dK c []]=os ++ [Sp.li [],Sp.li [],seS c (fun o_=>false) 0,dK c []]:=by simp
 rw[e0,e1] at H9
 refine (?_ : SB c _ _ _ _ _ _ _ _ _ _) h8 H9
 clear H9
 refine X9 (fun h'=>Ex4 fun (g' : Bas) (S : Int→Bool) (n : Nat) (nv : Option Value)=>An3 ((subB g h env ns vs as).hp.StaysIn g'.hp) (g'.fo=(subB g h env ns vs as).fo) (Led c (callEnv Sw L 173) g' (psFC ++ rsFC) [some (.ref x),some (.ref D),some (.ref st),some (.ref its),some (.ref se),some (.ref n2),nv] (as ++ [st,its,se,n2]) (os ++ [Sp.li [],Sp.li [],seS c S n,dK c []]) h')) ?_ ?_
 intro F'
 refine fun h' H'=>(Za 1 rfl rfl : EV c _ _ _ _ _ _ _ _ _).eq H' (w_iterK H' Z1.ne (hat.keep H'.keep) fun it h'' H''=>?_)
 ·refine⟨it,(nM nd).length,kiS D (nM nd).length ep,_,_,
   fun i g' vs' as' os'=>Ex3 fun (S : Int→Bool) (n : Nat) (nv : Option Value)=>An7 ((subB g h env ns vs as).hp.StaysIn g'.hp) (g'.fo=(subB g h env ns vs as).fo) (n + un (fun o_=>1) S nd=nd.length) (mea nd S [] < 800) (vs'=[some (.ref x),some (.ref D),some (.ref st),some (.ref its),some (.ref se),some (.ref n2),nv]) (as'=as ++ [st,its,se,n2]) (os'=os ++ [Sp.li [],Sp.li [],seS c S n,dK c []]),
   rfl,wk_keys (d:=D) (l:=nM nd) (ep:=ep) hh',⟨_,_,_,_,⟨fun o_=>false,0,none,Zt _,rfl,?_,?_,rfl,rfl,rfl⟩,H''⟩,by rintro i g' _ _ _ ⟨_,_,_,k1,_⟩;exact hat.keep k1,?_,?_⟩
  ·rw[un_all];simp
  ·unfold mea;simpa using hz
  ·rintro J' i QL g₁ o_ o_ o_ v h₁ hi ⟨S,n,nv,k1,k2,k3,k4,rfl,rfl,rfl⟩ ⟨k,xx,hx,t,rfl⟩ H1
   refine H1.lv ?_
   intro vl H1
   have hkn : k∈nd.map (·.node):=by
    have:=Nd hx
    simp only[nM,List.mem_map] at this
    obtain⟨r,hr,e⟩:=this
    cases e;exact List.mem_map_of_mem hr
   have hnb : n≤nd.length:=Nat.le.intro k3
   have hsb : ∀ {m : Nat},m≤nd.length + 1→m < scanBound:=fun h=>ya h (Nat.succ_lt_succ (S5 hlen hz)) (by decide)
   refine Yp 6 rfl rfl H1 fun h₂ H2=>?_
   rw[List.append_assoc,List.append_assoc] at H2
   refine Uq (Xs (Zb (Za 6 rfl rfl) (Za 4 rfl rfl) (c_inS' (.ld (as.length + 2) (Zw rfl rfl) (Zw hl0 rfl)) (hsb (Nat.le_succ_of_le hnb)))) H2 ?_)
   cases hS : S k with
   | true =>
    rw[if_pos rfl]
    refine (?_ : SB c _ _ _ _ _ _ _ _ _ _) h₂ H2
    refine sb_cont fun h₃ H3=>⟨_,_,_,_,⟨S,n,_,k1,k2,k3,k4,rfl,rfl,rfl⟩,by rw[List.append_assoc,List.append_assoc];exact H3⟩
   | false =>
    rw[if_neg (by simp)]
    refine Zg (fun h₃ H3=>?_) h₂ H2
    refine (?_ : SB c _ _ _ _ _ _ _ _ _ _) h₃ H3
    clear H3 H2 H1
    refine Sq (fun m h'=>Ex6 fun (s : List FE) (S : Int→Bool) (n : Nat) (k : Int) (t : Tok) (g' : Bas)=>An5 (m=mea nd S s) (Good c (subB g h env ns vs as).hp (subB g h env ns vs as).fo g' nd rk S n s) (k∈nd.map (·.node)) ((∀ e∈s,rk e.r.node < rk k)) (FL c L g' x D st its se n2 it as os (kiS D (nM nd).length ep (i + 1)) s S n (.int k t) h')) (mea nd S [])
     (fun h' H'=>⟨[],S,n,k,t,g₁,rfl,⟨k1,k2,fun e he=>(nomatch he),.nil,k3,k4⟩,hkn,fun e he=>(nomatch he),H'⟩) ?_
    clear hS hkn hnb k3 k4 k1 k2 hx
    rintro I' o_ QL h4 ⟨s,S',n',k',t',g',rfl,G,hk',hrk,HF⟩
    unfold FL at HF
    refine HF.lv ?_
    intro vw HF
    refine Xs (Zm V4) HF ?_
    refine ifT rfl ?_
    have nin : (fD s).lookup k'=none:=fD_look fun e he q=>by have:=hrk e he;rw[q] at this;exact absurd this (Nat.lt_irrefl _)
    have slen:=mea_len nd S' s
    have sbd:=G.bd
    have scn:=G.cnt
    obtain⟨r,hr,hrn⟩:=Ng hk'
    obtain⟨ir,hir⟩:=List.mem_iff_getElem?.mp hr
    have Z2:=Z1.mono G.st
    refine w_ifJ (fun h'=>Ex5 fun (s1 : List FE) (S1 : Int→Bool) (n1 : Nat) (g1 : Bas) (nv : Value)=>An3 (mea nd S1 s1≤mea nd S' s) (Good c (subB g h env ns vs as).hp (subB g h env ns vs as).fo g1 nd rk S1 n1 s1) (FL c L g1 x D st its se n2 it as os (kiS D (nM nd).length ep (i + 1)) s1 S1 n1 nv h')) HF (Zb (Za 6 rfl rfl) (Za 4 rfl rfl) (c_inS' (.ld (as.length + 2) (Zw rfl rfl) (Zw hl0 rfl)) (hsb (Nat.le_succ_of_le (Nat.le.intro scn))))) ?_ ?_ ?_
    ·intro hS QJ
     refine Uq (Xs (Zb (Za 6 rfl rfl) (Za 5 rfl rfl) (c_kin' (.ld (as.length + 3) (Zw rfl rfl) (Zw hl0 rfl)))) HF ?_)
     rw[nin,if_neg (by simp)]
     exact Zg (fun h5 H5=>Zg (fun h6 H6=>⟨rfl,s,S',n',g',_,Nat.le_refl _,G,H6⟩) h5 H5) h4 HF
    ·intro hS QJ
     have hp:=hdS HF (Zw rfl rfl : (as ++ ([st,its,se,n2,it] ++ fI s))[as.length + 2]?=some se) (Zw hl0 rfl)
     refine Yj (Xa HF (Za 4 rfl rfl) PySem.F.plainAttrs_set PySem.F.slot_set_add PySem.F.type_set_add hp.1 hp.2 (Zq HF (Za 6 rfl rfl) (Zd (c_addS (j:=as.length + 2) HF (Zw rfl rfl) (Zw hl0 rfl) (hsb (Nat.succ_le_succ (Nat.le.intro scn))) fun h5 H5=>?_))))
     rw[U3 hl0,if_neg (by simp[hS])] at H5
     obtain⟨jr,ja,jo⟩:=hrec r hr
     have hd2:=H5.hd (Zw rfl rfl : (as ++ ([st,its,se,n2,it] ++ fI s))[as.length + 1]?=some its) (Zw hl0 rfl)
     refine Yj (Xa H5 (Za 3 rfl rfl) PySem.F.plainAttrs_list PySem.F.slot_list_append PySem.F.type_list_append hd2.1 hd2.2 (Zi (w_attrX (Xj H5 (Zr (by rfl) n_iter boot_iter') (Zi (w_attrX (w_sub ((Za 1 rfl rfl : EV c _ _ _ _ _ _ _ _ _).eq H5 ((Za 6 rfl rfl : EV c _ _ _ _ _ _ _ _ _).eq H5 (w_tailD H5 (.fz Z2.D) (hrn ▸ M9 Z2.nd hir) (c_getSc H5 (ap ja _) (ap jo _) (.fz (Z2.rc r hr).1) (Zd (c_iterB H5 (.fz (Z2.rc r hr).2) fun it' h6 H6 he=>?_)))))))))))))
     refine c_next H6 he fun m h7 H7=>?_
     obtain⟨g'',q1,q2,H8,zm⟩:=H7.solid
     rw[List.append_assoc as,List.append_assoc os] at H8
     refine Zd (X8 (i:=as.length + 1) H8 (Zw rfl rfl) (Zw hl0 rfl) (by rw[sizeLine_eq];simp[fM];exact Na (ya slen sbd (by decide))) fun h9 H9=>?_)
     rw[U3 hl0] at H9
     refine w_setSub ((Uh (Zr (by rfl) Uf boot_len) (Za 2 rfl rfl) (.ld (as.length + 0) (Zw rfl rfl) (Zw hl0 rfl)) (by simp[fS];exact S8 (S5 slen sbd) (by decide)) : EV c _ _ _ _ _ _ _ _ _).run H9 fun v hv=>(Za 5 rfl rfl : EV c _ _ _ _ _ _ _ _ _).eq H9 ((Za 6 rfl rfl : EV c _ _ _ _ _ _ _ _ _).eq H9 (c_kset (j:=as.length + 3) H9 (Zw rfl rfl) (Zw hl0 rfl) nin (by simp[fD];exact S8 (S5 slen sbd) (by decide)) fun h10 H10=>?_)))
     rw[U3 hl0] at H10
     have hd3:=H10.hd (Zw rfl rfl : (as ++ ([st,its,se,n2,it] ++ fI s ++ [it']))[as.length + 0]?=some st) (Zw hl0 rfl)
     refine Yj (Xa H10 (Za 2 rfl rfl) PySem.F.plainAttrs_list PySem.F.slot_list_append PySem.F.type_list_append hd3.1 hd3.2 (Zq H10 (Za 6 rfl rfl) (Zd (X8 (i:=as.length + 0) H10 (Zw rfl rfl) (Zw hl0 rfl) (by rw[sizeLine_eq];simp[fS];exact Na (ya slen sbd (by decide))) fun h11 H11=>?_))))
     rw[U3 hl0] at H11
     have hu:=un_add (fun r=>r.sc.length + 2) S' nd r Z2.nd hr (by rw[hrn];exact hS)
     have hu2:=un_add (fun o_=>1) S' nd r Z2.nd hr (by rw[hrn];exact hS)
     rw[hrn] at hu hu2
     have hmea : mea nd (fun k''=>S' k'' || decide (k''=k')) (s ++ [⟨r,0,t',v,it',m⟩]) + 1=mea nd S' s:=by
      rw[Va];unfold mea;rw[hu];simp;lia
     refine Zg (fun h12 H12=>⟨rfl,s ++ [⟨r,0,t',v,it',m⟩],fun k''=>S' k'' || decide (k''=k'),n' + 1,g'',.int k' t',Na (S9 hmea),⟨Zc G.st q1,q2.trans G.fo,?_,?_,(Nat.add_right_comm ..).trans ((congrArg (n' + ·) hu2).symm.trans scn),S8 (S9 hmea) sbd⟩,?_⟩) h11 H11
     ·intro e he
      rcases Nh he with he | he
      ·obtain⟨a1,a2,a3,a4⟩:=G.el e he
       exact⟨a1,a2,by simp[a3],a4.stay q1⟩
      ·simp at he;subst he
       exact⟨hr,Nat.zero_le _,by simp[hrn],zm⟩
     ·rw[List.pairwise_append]
      refine⟨G.pw,by simp,fun a ha b hb=>?_⟩
      simp at hb;subst hb
      show _ < rk r.node
      rw[hrn];exact hrk a ha
     ·unfold FL
      rw[fS_snoc,fM_snoc,fD_snoc,fI_snoc,fO_snoc]
      have hn2 : Value.int r.node t'=.int k' t':=by rw[hrn]
      show Led _ _ _ _ _ _ (os ++ ([Sp.li (fS s ++ [.int r.node t']),_,_,dK c (fD s ++ [(r.node,v)]),_] ++ _)) _
      rw[hrn]
      exact H12
    ·rintro h5 ⟨s1,S1,n1,g1,nv1,hm1,G1,H5⟩
     refine (?_ : SB c _ _ _ _ _ _ _ _ _ _) h5 H5
     clear H5
     refine sb_whileE (fun m h'=>Ex3 fun (s2 : List FE) (g2 : Bas) (nv2 : Value)=>An4 (m=s2.length) (mea nd S1 s2≤mea nd S' s) (Good c (subB g h env ns vs as).hp (subB g h env ns vs as).fo g2 nd rk S1 n1 s2) (FL c L g2 x D st its se n2 it as os (kiS D (nM nd).length ep (i + 1)) s2 S1 n1 nv2 h')) s1.length (fun h' H'=>⟨s1,g1,nv1,rfl,hm1,G1,H'⟩) ?_
     clear hm1 G1
     rintro I2 o_ QL h6 ⟨s2,g2,nv2,rfl,hm2,G2,H6⟩
     have slen2:=mea_len nd S1 s2
     unfold FL at H6
     refine Xs (Yk (Za 2 rfl rfl) (tr_list (.ld (as.length + 0) (Zw rfl rfl) (Zw hl0 rfl)) (by simp[fS];exact ya (S7 slen2 hm2) sbd (by decide)))) H6 ?_
     rcases (show s2=[]∨∃ s3 e,s2=s3 ++ [e] by
      rcases List.eq_nil_or_concat s2 with h | ⟨a,b,h⟩
      ·exact .inl h
      ·exact .inr ⟨a,b,by rw[h,List.concat_eq_append]⟩) with rfl | ⟨s3,e,rfl⟩
     ·rw[if_neg (by simp[fS])]
      refine (?_ : SB c _ _ _ _ _ _ _ _ _ _) h6 H6
      refine M1 fun h7 H7=>Zg (fun h8 H8=>?_) h7 H7
      exact⟨_,_,_,_,⟨S1,n1,_,G2.st,G2.fo,G2.cnt,G2.bd,rfl,rfl,rfl⟩,by rw[List.append_assoc,List.append_assoc];exact H8⟩
     ·rw[if_pos (by simp[fS])]
      rw[fS_snoc,fM_snoc,fD_snoc,fI_snoc,fO_snoc] at H6
      obtain⟨er,ei,es,em⟩:=G2.el e (by simp)
      have hmw : ∀ {h' : Heap},g2.hp.StaysIn h'→h'.get? e.m=some (mwO e.it):=fun kp=>by obtain⟨o,eo,rfl⟩:=em;exact kp _ _ eo
      have Z3:=Z1.mono G2.st
      have hl3 : s3.length < 800:=by have:=G2.bd;rw[List.length_append] at slen2;exact s5 ‹_› ‹_›
      rw[Va] at hm2
      have pj : ∀ {a : Addr},(as ++ ([st,its,se,n2,it] ++ (fI s3 ++ [a])))[as.length + (5 + s3.length)]?=some a:=fun {a}=>Zw rfl (by rw[List.getElem?_append_right (by simp)];simp[fI])
      have po : ∀ {a b d e' f : Sp}{y : Sp},(os ++ ([a,b,d,e',f] ++ (fO s3 ++ [y])))[as.length + (5 + s3.length)]?=some y:=fun {a b d e' f y}=>Zw hl0 (by rw[List.getElem?_append_right (by simp)];simp[fO])
      by_cases hi : e.i < e.r.sc.length
      ·obtain⟨q,hq⟩ : ∃ q,e.r.sc[e.i]?=some q:=⟨_,Nc hi⟩
       obtain⟨hq1,hq2⟩:=hsc e.r er q (Nd hq)
       refine sb_try (cls:="StopIteration") (T:="StopIteration") (vs':=[none]) (as':=[]) (os':=[.li []]) (hfo G2.fo) (fun B h' H'=>(show EV c B (callEnv Sw L 173) _ _ _ _ _ _ _ from Zr (by rfl) Jq Xr) h' H') (by kernel_rfl) (by kernel_rfl) (by kernel_rfl) ?_ (fun e h' H'=>absurd H'.len (by simp)) h6 H6
       intro h7 H7
       refine Zz (w_call0 ((ev_last (Za 3 rfl rfl) (Sb ev_i) (.ld (as.length + 1) (Zw rfl rfl) (Zw hl0 rfl)) (by simp[fM];exact q1 ‹_› (by decide)) : EV c _ _ _ _ _ _ _ _ _).eq H7 ⟨e.m,e.it,rfl,hmw H7.keep,c_mw (j:=as.length + (5 + s3.length)) (v:=.int q.1 q.2) H7 pj po (.fz em) (.fz (Z3.rc e.r er).2) (by rw[List.getElem?_map,hq];rfl) fun h8 H8=>Zp 6 rfl rfl H8 fun h9 H9=>?_⟩))
       refine (?_ : SB c _ _ _ _ _ _ _ _ _ _) h9 H9
       refine M1 fun h10 H10=>Zg (fun h11 H11=>?_) h10 H10
       refine⟨mea nd S1 (s3 ++ [{ e with i:=e.i + 1 }]),?_,s3 ++ [{ e with i:=e.i + 1 }],S1,n1,q.1,q.2,g2,rfl,⟨G2.st,G2.fo,?_,?_,G2.cnt,?_⟩,hq1,?_,?_⟩
       ·rw[Va];exact yb hm2 hi
       ·intro e' he'
        rcases Nh he' with he' | he'
        ·exact G2.el e' (by simp[he'])
        ·simp at he';subst he';exact⟨er,hi,es,em⟩
       ·have:=G2.pw
        rw[List.pairwise_append] at this ⊢
        refine⟨this.1,by simp,fun a ha b hb=>?_⟩
        simp at hb;subst hb
        exact this.2.2 a ha e (by simp)
       ·have:=G2.bd
        rw[Va] at this ⊢
        exact yc this hi
       ·intro e' he'
        rcases Nh he' with he' | he'
        ·have:=G2.pw
         rw[List.pairwise_append] at this
         exact S8 (this.2.2 e' he' e (by simp)) hq2
        ·simp at he';subst he';exact hq2
       ·unfold FL
        rw[fS_snoc,fM_snoc,fD_snoc,fI_snoc,fO_snoc]
        rw[U3 hl0] at H11
        have e5 : ∀ {a b d e' f y y' : Sp},([a,b,d,e',f] ++ (fO s3 ++ [y])).set (5 + s3.length) y'=[a,b,d,e',f] ++ (fO s3 ++ [y']):=fun {a b d e' f y y'}=>by
         rw[List.set_append_right _ _ (by simp)]
         rw[show 5 + s3.length - [a,b,d,e',f].length=(fO s3).length by simp[fO]]
         rw[Yt rfl]
        rw[e5] at H11
        exact H11
      ·refine sb_try (cls:="StopIteration") (T:="StopIteration") (vs':=[some (.ref x),some (.ref D),some (.ref st),some (.ref its),some (.ref se),some (.ref n2),some nv2]) (as':=as ++ ([st,its,se,n2,it] ++ fI s3)) (os':=os ++ ([Sp.li (fS s3 ++ [.int e.r.node e.t]),Sp.li (fM s3 ++ [.ref e.m]),seS c S1 n1,dK c (fD s3 ++ [(e.r.node,e.v)]),kiS D (nM nd).length ep (i + 1)] ++ fO s3)) (hfo G2.fo) (fun B h' H'=>(show EV c B (callEnv Sw L 173) _ _ _ _ _ _ _ from Zr (by rfl) Jq Xr) h' H') (by kernel_rfl) (by kernel_rfl) (by kernel_rfl) ?_ ?_ h6 H6
       ·intro h7 H7
        refine Zz (w_call0 ((ev_last (Za 3 rfl rfl) (Sb ev_i) (.ld (as.length + 1) (Zw rfl rfl) (Zw hl0 rfl)) (by simp[fM];exact q1 ‹_› (by decide)) : EV c _ _ _ _ _ _ _ _ _).eq H7 ⟨e.m,e.it,rfl,hmw H7.keep,Zh (c_mwE (S:=(callEnv Sw L 173).locals :: g2.fs) (Q:=fun o_ o_=>False) (j:=as.length + (5 + s3.length)) hh' H7 pj po (.fz em) (.fz (Z3.rc e.r er).2) (by rw[List.length_map];exact r8 ‹_›)) (fun o_ o_ q=>q.elim) ?_⟩))
        rintro o_ h' ⟨ea,h8,as',os',rfl,rfl,rfl,H8,fl⟩
        refine⟨ea,none,h8,rfl,?_,fl⟩
        have e6 : (as ++ ([st,its,se,n2,it] ++ (fI s3 ++ [e.it]))).eraseIdx (as.length + (5 + s3.length))=as ++ ([st,its,se,n2,it] ++ fI s3):=by
         rw[← List.append_assoc [st,its,se,n2,it],← List.append_assoc as]
         exact Yw (by simp[fI];exact Nat.add_comm _ _)
        have e7 : ∀ {a b d e' f y : Sp},(os ++ ([a,b,d,e',f] ++ (fO s3 ++ [y]))).eraseIdx (as.length + (5 + s3.length))=os ++ ([a,b,d,e',f] ++ fO s3):=fun {a b d e' f y}=>by
         rw[← List.append_assoc [a,b,d,e',f],← List.append_assoc os]
         exact Yw (by simp[fO,hl0];exact Nat.add_comm _ _)
        rw[e6,e7] at H8
        exact H8
       ·intro ex h7 H7
        refine w_del ((Za 5 rfl rfl : EV c _ _ _ _ _ _ _ _ _).eq H7 (w_pop (i:=as.length + 0) H7 (Za 2 rfl rfl) (Zw rfl rfl) (Zw hl0 rfl) (by rw[sizeLine_eq];simp[fS];exact q1 ‹_› (by decide)) fun h8 H8=>?_))
        rw[U3 hl0] at H8
        refine c_kdel (j:=as.length + 3) H8 (Zw rfl rfl) (Zw hl0 rfl) (by simp[fD];exact q1 ‹_› (by decide)) fun h9 H9=>?_
        rw[U3 hl0] at H9
        refine Yj (w_pop (i:=as.length + 1) H9 (Za 3 rfl rfl) (Zw rfl rfl) (Zw hl0 rfl) (by rw[sizeLine_eq];simp[fM];exact q1 ‹_› (by decide)) fun h10 H10=>?_)
        rw[U3 hl0] at H10
        refine Zg (fun h11 H11=>Zg (fun h12 H12=>?_) h11 H11) h10 H10
        refine⟨s3.length,by simp,s3,g2,nv2,rfl,yf hm2,⟨G2.st,G2.fo,fun e' he'=>G2.el e' (by simp[he']),(List.pairwise_append.mp G2.pw).1,G2.cnt,?_⟩,H12⟩
        have:=G2.bd
        rw[Va] at this;exact ye this
  ·rintro g₁ o_ o_ o_ h₁ ⟨S,n,nv,k1,k2,k3,k4,rfl,rfl,rfl⟩ H1
   exact⟨_,_,_,_,k1,k2,H1⟩
 ·rintro h' ⟨g',S,n,nv,k1,k2,H'⟩
  refine (?_ : SB c _ _ _ _ _ _ _ _ _ _) h' H'
  refine Y6 ev_none fun h₂ H2 v hv=>⟨hv,?_⟩
  have:=H.leave ((H2.take as.length)) k1 k2
  rw[List.take_left' rfl,hl0,List.take_left' rfl] at this
  exact this.1.weaken (g':=g) H.low this.2 rfl
noncomputable abbrev fdPR : FuncData:=Xl (me 12 3) "TopologicalSorter.prepare" .none (.str "cpy313.graphlib" 330) (.ref 137)
noncomputable abbrev psPR : List PySem.Str:=["self"]
noncomputable abbrev rsPR : List PySem.Str:=["cycle"]
theorem F_pr : FnK 138 fdPR (fnB (me 12 3)) (psPR ++ rsPR):=⟨fun P=>by kernel_rfl,fun P=>by kernel_rfl,rfl,by kernel_rfl,dk,dk,dk,rfl,rfl,by kernel_rfl,by kernel_rfl⟩
theorem B_pr (a : Value) : bindArgs fdPR ⟨[a],[]⟩=pure (psPR.zip [a]):=by kernel_rfl
noncomputable def rdy (F : Int→Int) (nd : List NR) : List Int:=(nd.filter fun r=>F r.node == 0).map (·.node)
section
variable {as0 : List Addr} {os0 : List Sp}
theorem Led.pick (H : Led c env g ns vs as os h) {as' : List Addr}{os' : List Sp}(hl : as'.length=os'.length) (hn : as'.Nodup) (hs : ∀ (i : Nat) a o,as'[i]?=some a→os'[i]?=some o→∃ (j : Nat) (o' : Sp),as[j]?=some a∧os[j]?=some o'∧∀ ob,o'.sat ob→o.sat ob) :
 ∃ g' : Bas,g.hp.StaysIn g'.hp∧g'.fo=g.fo∧Led c env g' ns vs as' os' h∧∀ (j : Nat) a o,as[j]?=some a→os[j]?=some o→a ∉ as'→At g'.hp a o:=by
 have mem : ∀ a∈as',a∈as:=fun a ha=>by
  obtain⟨i,hi⟩:=List.mem_iff_getElem?.mp ha
  have hlt:=(Nf hi).1
  obtain⟨j,o',h1,o_⟩:=hs i a (os'[i]'(by exact r1 ‹_› ‹_›)) hi (Nc _)
  exact Nd h1
 have H' : Led c env g ns vs as' os' h:=⟨H.eo,H.base,H.fr,H.low,H.keep,H.lg,H.fo,H.fd,H.fg,fun a ha q=>H.fa a ha (mem a q),hl,hn,fun q=>H.nl (mem _ q),fun a ha=>H.new a (mem a ha),fun i a o e k=>by
  obtain⟨j,o',h1,h2,h3⟩:=hs i a o e k
  obtain⟨ob,hb,hsat⟩:=H.at_ j a o' h1 h2
  exact⟨ob,hb,h3 ob hsat⟩⟩
 refine⟨ice g h env as',H'.stays,rfl,H'.freeze,fun j a o h1 h2 h3=>?_⟩
 have hm:=Nd h1
 exact (H.at_ j a o h1 h2).mono fun ob e=>Tp e (fun q=>H.nl (q ▸ hm)) (fun q=>H.fa a q hm) h3
theorem tr_none {h : Heap}{Q : Bool→Heap→Prop}(q : Q false h) : W c A (truthy .none) Q X h:=fun kk=>PyProof.Rows.truthy_none ⟨⟨rfl,rfl,rfl⟩,q⟩
theorem prep_ok {x dxS D : Addr}{nd : List NR}{t1 t2 : Tok}{F : Int→Int}{rk : Int→Nat}(hA : Rm A 6) (hh : A.handled=none) (FA : FR A (env.locals :: g.fs)) (Z : TF g.hp x dxS D nd) (e0 : as0.length=os0.length)
 (hsc : ∀ r∈nd,∀ k∈r.sc,k.1∈nd.map (·.node)∧rk r.node < rk k.1) (hz : un (fun r=>r.sc.length + 2) (fun o_=>false) nd < 800) (hlen : nd.length < 800)
 (H : Led c env g ns vs (as0 ++ [dxS] ++ nd.map (·.N)) (os0 ++ [atS (tsA D .none (.int 0 t1) (.int 0 t2))] ++ nd.map (nS F)) h) :
 W c A (call (.ref 138) [.ref x]) (fun v h'=>v=.none∧∃ R,Led c env g ns vs (as0 ++ tA dxS R nd) (os0 ++ tO (tsS D R 0 0) (liI (rdy F nd)) F nd) h') noX h:=by
 refine Zl ?_
 intro Q'
 refine w_fnO H FA F_pr hA.depth (B_pr _) rfl dk fun L h₁ FO1 H1=>?_
 have Z1 : TF (subB g h env ns vs (as0 ++ [dxS] ++ nd.map (·.N))).hp x dxS D nd:=Z.mono H.stay
 have hA':=hA.deep (callEnv fdPR L 138)
 have hh' : (A.deeper (callEnv fdPR L 138)).handled=none:=hh
 obtain⟨ep,hat⟩:=(Uo (Sx (c:=c) Z1.D (by simpa [nM,Function.comp_def] using Z1.nd))).dictAt
 have e1 : (as0 ++ [dxS]).length=(os0 ++ [atS (tsA D .none (.int 0 t1) (.int 0 t2))]).length:=by simp[e0]
 have DS : ∀ {l : List (Str × Value)},Loc (subB g h env ns vs (as0 ++ [dxS] ++ nd.map (·.N))) (as0 ++ [dxS] ++ nd.map (·.N)) (os0 ++ [atS l] ++ nd.map (nS F)) dxS (atS l):=fun {l}=>.ld as0.length (by simp) (by rw[e0];simp)
 have ja : ∀ {i : Nat}{r : NR},nd[i]?=some r→(as0 ++ [dxS] ++ nd.map (·.N))[(as0 ++ [dxS]).length + i]?=some r.N:=fun hi=>Zw rfl (by simp[hi])
 have jo : ∀ {i : Nat}{r : NR}{sp : Sp},nd[i]?=some r→(os0 ++ [sp] ++ nd.map (nS F))[(as0 ++ [dxS]).length + i]?=some (nS F r):=fun hi=>Zw (by simp[e0]) (by simp[hi])
 refine Uq (Yx ((Z0 (Za 0 rfl rfl) (.fz Z1.I) DS Me Jw : EV c _ _ _ _ _ _ _ _ _).eq H1 ((ev_none : EV c _ _ _ _ _ _ _ _ _).eq H1 (Vj rfl (Yb ?_)))))
 rw[if_neg (by simp)]
 refine Zg (fun h₂ H2=>?_) h₁ H1
 obtain⟨od,eD,es,n,hod,o_⟩:=H2.get (.fz Z1.D)
 refine Xb (Sh (ns':=["i"]) (cl:=[]) H2 ⟨dk,by kernel_rfl,dk,by kernel_rfl,dk,dk,dk⟩
  (Tw H2 (Z0 (Za 0 rfl rfl) (.fz Z1.I) DS Vv Vn) PySem.F.plainAttrs_dict PySem.F.slot_dict_values PySem.F.type_dict_values (fun k=>⟨_,eD,by rw[hod]⟩) (fun b hb=>by cases hb;exact⟨_,eD,by rw[hod]⟩) (c_vals H2 Z1.ne (hat.keep H2.keep) fun it h₃ H3=>?_)))
 refine .of ⟨_,it,(nM nd).length,fun i=>.pr fun o=>o.cls=.type "dict_valueiterator"∧o.data=.fields #[.ref D,.int i 0,.int (nM nd).length 0,.int ep 0],_,_,fun i o_ l=>l=((nd.take i).filter fun r=>F r.node == 0).map fun r=>Value.int r.node r.t,Zt _,rfl,rfl,wk_vals (d:=D) (l:=nM nd) (ep:=ep) hh',hat,H3,by simp[nM];exact q1 ‹_› (by decide),?_,fun o_ o_=>by simp,?_,?_⟩
 ·rintro i g' l rfl
  have:=List.length_filter_le (fun r : NR=>F r.node == 0) (nd.take i)
  simp only[List.length_map,List.length_take] at this ⊢;exact S7 this (Nat.min_le_left ..)
 ·rintro i g' vs' l v h4 E acc QX QT hi rfl st' efs ⟨k,hk⟩ hl' H4
  obtain⟨w0,rfl⟩ : ∃ w0,vs'=[w0]:=by
   cases vs' with
   | nil=>simp at hl'
   | cons w0 r=>cases r with
    | nil=>exact⟨w0,rfl⟩
    | cons _ _=>simp at hl'
  obtain⟨r,hr,rfl⟩ : ∃ r,nd[i]?=some r∧v=.ref r.N:=by
   simp only[nM,List.getElem?_map,Option.map_eq_some_iff] at hk
   obtain⟨r,hr,e⟩:=hk
   cases e;exact⟨r,hr,rfl⟩
  have Z2:=Z1.mono st'
  have zr:=Z2.rc r (Nd hr)
  refine Yp 0 rfl rfl H4 fun h5 H5=>?_
  refine M0 (Yx (Uy H5 (Za 0 rfl rfl) (Tn H5 (ap (ap (ja hr) _) _) (ap (ap (jo hr) _) _) (.fz zr.1) fun u=>(ev_i : EV c _ _ _ _ _ _ _ _ _).runI H5 fun t3=>?_)))
  refine Jy (Sd h5 H5 _ _ ⟨_,rfl⟩ ⟨_,rfl⟩) fun v hv=>?_
  subst hv
  refine Yb ?_
  have tk : nd.take (i + 1)=nd.take i ++ [r]:=by rw[List.take_add_one,hr];rfl
  by_cases hF : F r.node=0
  ·refine ifT (by simpa using hF) ?_
   refine Uy H5 (Za 0 rfl rfl) (c_getNode H5 (ap (ap (ja hr) _) _) (ap (ap (jo hr) _) _) (.fz zr.1) ⟨g',_,Zt _,rfl,rfl,H5,?_⟩)
   show _=_
   rw[tk];simp[hF]
  ·refine ifF (by simpa using hF) ?_
   refine⟨g',_,Zt _,rfl,rfl,H5,?_⟩
   show _=_
   rw[tk];simp[hF]
 ·rintro g' o_ h4 R rfl st' fo' H4
  have H5:=H4.weaken (g':=subB g h env ns vs (as0 ++ [dxS] ++ nd.map (·.N))) H2.low st' fo'.symm
  have hnl : (nM nd).length=nd.length:=by simp[nM]
  rw[hnl,List.take_length] at H5
  have ha : (as0 ++ [dxS] ++ nd.map (·.N) ++ [R])[as0.length]?=some dxS:=by simp
  have ho : ∀ {a b : Sp},(os0 ++ [a] ++ nd.map (nS F) ++ [b])[as0.length]?=some a:=fun {a b}=>by rw[e0];simp
  refine (Za 0 rfl rfl : EV c _ _ _ _ _ _ _ _ _).eq H5 (Ue (j:=as0.length) H5 (.fz Z1.I) ha ho sk_rn (by simp) fun h6 H6=>?_)
  have es : ∀ {a b a' : Sp},(os0 ++ [a] ++ nd.map (nS F) ++ [b]).set as0.length a'=os0 ++ [a'] ++ nd.map (nS F) ++ [b]:=fun {a b a'}=>by rw[e0];simp
  rw[es,lput_rn] at H6
  refine Zz (Xd H6 (Za 0 rfl rfl) (.fz Z1.I) (.ld as0.length ha ho) mk_fc (by kernel_rfl) (Zh (fc_ok (F:=F) (hA'.mono (by decide)) hh' FO1.toFR Z1 (.ld as0.length ha ho) Vn (fun r hr=>?_) hsc hz H6) ?_ fun o_ o_ q=>q.elim))
  ·obtain⟨i,hi⟩:=List.mem_iff_getElem?.mp hr
   exact⟨_,ap (ja hi) _,ap (jo hi) _⟩
  rintro v h7 ⟨rfl,H7⟩
  refine Zp 1 rfl rfl H7 fun h8 H8=>?_
  refine Uq (Xs (d:=false) (Yk (Za 1 rfl rfl) fun h' H' v hv=>by subst hv;exact tr_none ⟨rfl,rfl⟩) H8 ?_)
  rw[if_neg (by simp)]
  refine Zg (fun h9 H9=>?_) h8 H8
  refine Zg (fun h10 H10=>⟨rfl,R,?_⟩) h9 H9
  have H11:=H.leave₀ H10
  have H12:=H11.closeT ha ho
  rw[es] at H12
  have hR : (as0 ++ [dxS] ++ nd.map (·.N) ++ [R])[(as0 ++ [dxS] ++ nd.map (·.N)).length]?=some R:=Ze rfl
  have H13:=H12.closeI (rs:=rdy F nd) hR (Ze (by simp[e0])) (by
   unfold rdy
   generalize (nd.filter fun r=>F r.node == 0)=q
   induction q with
   | nil=>exact .nil
   | cons r q ih=>exact .cons ⟨_,rfl⟩ ih)
  rw[Yt (by simp[e0])] at H13
  refine H13.sub (by simp[tA,tO,e0]) ?_ ?_
  ·have:=H13.nd
   refine (List.Perm.nodup_iff ?_).mp this
   unfold tA
   rw[List.append_assoc,List.append_assoc]
   refine List.Perm.append_left as0 ?_
   exact List.Perm.cons dxS (List.perm_append_singleton R _)
  ·intro i a o h1 h2
   unfold tA at h1;unfold tO at h2
   rcases Nat.lt_or_ge i as0.length with hi | hi
   ·refine⟨i,?_,?_⟩
    ·rw[List.getElem?_append_left hi] at h1
     exact ap (ap (ap h1 _) _) _
    ·rw[List.getElem?_append_left (by exact r1 ‹_› ‹_›)] at h2
     exact ap (ap (ap h2 _) _) _
   ·obtain⟨j,rfl⟩ : ∃ j,i=as0.length + j:=⟨i - as0.length,xc (by assumption)⟩
    rw[List.getElem?_append_right (by assumption),Nat.add_sub_cancel_left] at h1
    rw[e0,List.getElem?_append_right (by with_reducible exact Nat.le_add_right _ _),Nat.add_sub_cancel_left] at h2
    rcases j with _ | _ | j
    ·have h1' : dxS=a:=by simpa using h1
     have h2' : tsS D R 0 0=o:=by simpa using h2
     exact⟨as0.length,ha.trans (congrArg some h1'),ho.trans (congrArg some h2')⟩
    ·have h1' : R=a:=by simpa using h1
     have h2' : liI (rdy F nd)=o:=by simpa using h2
     exact⟨_,hR.trans (congrArg some h1'),(Ze (by simp[e0])).trans (congrArg some h2')⟩
    ·have h1' : (nd.map (·.N))[j]?=some a:=h1
     have h2' : (nd.map (nS F))[j]?=some o:=h2
     exact⟨(as0 ++ [dxS]).length + j,ap (Zw rfl h1') _,ap (Zw (by simp[e0]) h2') _⟩
end
noncomputable abbrev pI (ns : List Int) (vs : List Value) : Prop:=Paired (fun i v=>isI i v) ns vs
theorem pI.ints {ns : List Int}{vs : List Value}(p : pI ns vs) : IntsAre vs ns:=by
 induction p with
 | nil=>exact .nil
 | cons x _ ih=>obtain⟨t,e⟩:=x;subst e;exact .cons _ t ih
theorem pI.of {ns : List Int}{vs : List Value}(p : IntsAre vs ns) : pI ns vs:=by
 induction p with
 | nil=>exact .nil
 | cons n t _ ih=>exact .cons ⟨t,rfl⟩ ih
theorem pI.items {ns : List Int}{vs : List Value}(p : pI ns vs) : ∃ xs : Array (Int × Tok),vs.toArray=intItems xs∧xs.toList.map (·.1)=ns:=by
 obtain⟨xs,hx⟩:=p.ints.allInts.items
 refine⟨xs,hx,?_⟩
 have hn : numsOf vs.toArray.toList=ns:=by rw[show vs.toArray.toList=vs from rfl,p.ints.numsOf]
 rw[hx,nums_intItems] at hn
 exact hn
theorem c_max2 {a b : Int}{t u : Tok}{Q : Value→Heap→Prop}(hh : A.handled=none) (H : Led c env g ns vs as os h) (k : ∀ t h',Led c env g ns vs as os h'→Q (.int (max a b) t) h') : W c A (call (.builtin "max") [.int a t,.int b u]) Q X h:=fun kk=>by
 refine max_two_ints (s:=stt c h kk) hh fun h' tk hk=>⟨⟨rfl,rfl,rfl⟩,?_⟩
 by_cases hc : b > a
 ·rw[if_pos hc];have:=k u h' (H.grow hk);rwa [Int.max_eq_right (Int.le_of_lt hc)] at this
 ·rw[if_neg hc];have:=k t h' (H.grow hk);rwa [Int.max_eq_left (Int.not_lt.mp hc)] at this
theorem c_maxL {l : Addr}{ms : List Int}{us : List Value}{Q : Value→Heap→Prop}(hh : A.handled=none) (H : Led c env g ns vs as os h) (z : Loc g as os l (.li us)) (p : pI ms us) (hne : ms≠[]) (k : ∀ M t h',M∈ms→(∀ a∈ms,a≤M)→Led c env g ns vs as os h'→Q (.int M t) h') : W c A (call (.builtin "max") [.ref l]) Q X h:=fun kk=>by
 obtain⟨xs,hx,hn⟩:=p.items
 have hl:=(H.get z).isList
 rw[hx] at hl
 have hsz : 0 < xs.size:=by
  rcases Nat.eq_zero_or_pos xs.size with q | q
  ·exact absurd (by rw[← hn];simpa using q) hne
  ·exact q
 refine max_intList (s:=stt c h kk) hh hl hsz fun v h' tk hv hk=>⟨⟨rfl,rfl,rfl⟩,?_⟩
 obtain⟨t,rfl⟩:=intItems_at hv
 obtain⟨h1,h2⟩:=argBest_gt (numAt xs) (xs.size - 1)
 refine k _ t h' ?_ (fun a ha=>?_) (H.grow hk)
 ·rw[numAt_eq,← hn];exact getD_mem (by rw[List.length_map,Array.length_toList];exact S5 h1 (Nat.sub_lt hsz Nat.one_pos))
 ·rw[← hn] at ha
  obtain⟨j,hj,rfl⟩:=mem_getD ha
  rw[List.length_map,Array.length_toList] at hj
  rw[← numAt_eq];exact h2 j (Nat.le_sub_one_of_lt hj)
theorem c_minL {l : Addr}{ms : List Int}{us : List Value}{Q : Value→Heap→Prop}(hh : A.handled=none) (H : Led c env g ns vs as os h) (z : Loc g as os l (.li us)) (p : pI ms us) (hne : ms≠[]) (k : ∀ M t h',M∈ms→(∀ a∈ms,M≤a)→Led c env g ns vs as os h'→Q (.int M t) h') : W c A (call (.builtin "min") [.ref l]) Q X h:=fun kk=>by
 obtain⟨xs,hx,hn⟩:=p.items
 have hl:=(H.get z).isList
 rw[hx] at hl
 have hsz : 0 < xs.size:=by
  rcases Nat.eq_zero_or_pos xs.size with q | q
  ·exact absurd (by rw[← hn];simpa using q) hne
  ·exact q
 refine min_intList (s:=stt c h kk) hh hl hsz fun v h' tk hv hk=>⟨⟨rfl,rfl,rfl⟩,?_⟩
 obtain⟨t,rfl⟩:=intItems_at hv
 obtain⟨h1,h2⟩:=argBest_lt (numAt xs) (xs.size - 1)
 refine k _ t h' ?_ (fun a ha=>?_) (H.grow hk)
 ·rw[numAt_eq,← hn];exact getD_mem (by rw[List.length_map,Array.length_toList];exact S5 h1 (Nat.sub_lt hsz Nat.one_pos))
 ·rw[← hn] at ha
  obtain⟨j,hj,rfl⟩:=mem_getD ha
  rw[List.length_map,Array.length_toList] at hj
  rw[← numAt_eq];exact h2 j (Nat.le_sub_one_of_lt hj)
theorem c_sumL {l : Addr}{ms : List Int}{us : List Value}{Q : Value→Heap→Prop}(hh : A.handled=none) (H : Led c env g ns vs as os h) (z : Loc g as os l (.li us)) (p : pI ms us) (k : ∀ t h',Led c env g ns vs as os h'→Q (.int ms.sum t) h') : W c A (call (.builtin "sum") [.ref l]) Q X h:=fun kk=>by
 obtain⟨xs,hx,hn⟩:=p.items
 have hl:=(H.get z).isList
 rw[hx] at hl
 refine sum_intListG (s:=stt c h kk) hh hl fun h' tk t' hk=>⟨⟨rfl,rfl,rfl⟩,?_⟩
 have:=k t' h' (H.grow hk)
 rw[preSum_eq,hn,List.take_of_length_le (by rw[← hn];simp)]
 exact this
noncomputable def EP (c : Cx) (A : Around) (env : Env) (e : Option Expr) (g : Bas) (ns : List Str) (vs : List (Option Value)) (as : List Addr) (os : List Sp) (i : Option Int) : Prop:=
 ∀ h,Led c env g ns vs as os h→W c A (evalPart e env) (fun v h'=>IsPart v i∧Led c env g ns vs as os h') noX h
theorem Vf : EP c A env none g ns vs as os none:=fun h H kk=>wpAny_pure ⟨⟨rfl,rfl,rfl⟩,.none,H⟩
theorem ep_ev {e : Expr}{i : Int}(x : EV c A env e g ns vs as os (isI i)) : EP c A env (some e) g ns vs as os (some i):=fun h H=>by
 rw[evalPart_some]
 exact x.runI H fun t=>⟨.int i t,H⟩
theorem ep_w {e : Expr}{i : Int}(x : ∀ h,Led c env g ns vs as os h→W c A (eval e env) (fun v h'=>isI i v∧Led c env g ns vs as os h') noX h) : EP c A env (some e) g ns vs as os (some i):=fun h H=>by
 rw[evalPart_some]
 exact Zh (x h H) (fun v h' q=>⟨q.1.elim fun t e=>e ▸ .int i t,q.2⟩) fun o_ o_ q=>q
theorem Ts {l : Expr}{lower upper step : Option Expr}{p p' : Pos}{a : Addr}{us : List Value}{lo hi st : Option Int}{ops : Addr→List Value}{Q : Value→Heap→Prop}(H : Led c env g ns vs as os h) (x : EV c A env l g ns vs as os (·=.ref a)) (z : Loc g as os a (.li us)) (hz : us.length < 100000)
 (x1 : EP c A env lower g ns vs as os lo) (x2 : EP c A env upper g ns vs as os hi) (x3 : EP c A env step g ns vs as os st) (h0 : st≠some 0)
 (k : ∀ r h',Led c env g ns vs (as ++ [r]) (os ++ [.li (slicePick us.toArray lo hi st).toList]) h'→Q (.ref r) h')
 (hs : autoParam (∀ i,subscripted (.Slice lower upper step p') false (.ref a) (.ref i)=operate (ops i) (getItem (.ref a) (.ref i))) zV)
 (ht : autoParam (∀ r,letTemporaryGo l (.ref a) r=pure ()) zV) : W c A (eval (.Subscript l (.Slice lower upper step p') p) env) Q X h:=by
 refine w_sub (x.eq H fun kk=>wpAny_Slice ?_)
 refine wpAny_mono (x1 h H kk) (fun v1 s1 q1=>?_) fun o_ o_ q=>q.2.elim
 rw[q1.1.eq]
 refine wpAny_mono (x2 _ q1.2.2 _) (fun v2 s2 q2=>?_) fun o_ o_ q=>q.2.elim
 rw[q2.1.eq]
 refine wpAny_mono (x3 _ q2.2.2 _) (fun v3 s3 q3=>?_) fun o_ o_ q=>q.2.elim
 obtain⟨o3,p3,H3⟩:=q3
 rw[o3.eq]
 refine⟨⟨rfl,rfl,rfl⟩,fun k2=>?_⟩
 have H4:=H3.push { cls:=.type "slice",data:=.fields #[v1,v2,v3] }
 have hl:=(H4.get z).isList
 refine subscriptTail_ops (s:=stt c _ k2) (Heap.IsList.typeIs (s:=stt c _ k2) hl) list_getitem_lookup (wpAny_getItem_list_slice (s:=stt c _ k2) hl (Heap.IsSliceOf.new ..) q1.2.1 q2.2.1 p3 h0 ⟨⟨rfl,rfl,rfl⟩,?_⟩ (by simp;rw[sizeLine_eq];exact q3 ‹_› (by decide))) (hs _) ht
 refine k _ _ (H4.alloc rfl ⟨0,?_⟩)
 simp
theorem ints_run {ms : List Int}{us : List Value}(p : pI ms us) {x y : Nat}(h1 : x≤y) (h2 : y≤ms.length) : pI ((ms.drop x).take (y - x)) (slicePick us.toArray (some (x : Int)) (some (y : Int)) none).toList:=by
 have:=slice_ints p.ints (x:=x) (y:=y) (by with_reducible exact Int.natCast_nonneg _) (Int.ofNat_le.mpr h1) (Int.ofNat_le.mpr h2)
 rw[Int.toNat_sub,Int.toNat_natCast] at this
 exact pI.of this
theorem ints_from {ms : List Int}{us : List Value}(p : pI ms us) {x : Nat}(h2 : x≤ms.length) : pI (ms.drop x) (slicePick us.toArray (some (x : Int)) none none).toList:=by
 have:=slice_ints_from p.ints (x:=x) (by with_reducible exact Int.natCast_nonneg _) (Int.ofNat_le.mpr h2)
 rw[Int.toNat_natCast] at this
 exact pI.of this
theorem ints_upto {ms : List Int}{us : List Value}(p : pI ms us) {y : Nat}(h2 : y≤ms.length) : pI (ms.take y) (slicePick us.toArray none (some (y : Int)) none).toList:=by
 have:=slice_ints_upto p.ints (y:=y) (by with_reducible exact Int.natCast_nonneg _) (Int.ofNat_le.mpr h2)
 rw[Int.toNat_natCast] at this
 exact pI.of this
theorem Led.rot {bs cs : List Addr}{ps qs : List Sp}(H : Led c env g ns vs (as ++ bs ++ cs) (os ++ ps ++ qs) h) (h1 : as.length=os.length) (h2 : bs.length=ps.length) : Led c env g ns vs (as ++ cs ++ bs) (os ++ qs ++ ps) h:=by
 have h3 : cs.length=qs.length:=by have:=H.len;simp at this;rw[h1,h2] at this;exact Nat.add_left_cancel (Nat.add_left_cancel this)
 refine H.sub (by simp;rw[h1,h2,h3]) ?_ ?_
 ·refine (List.Perm.nodup_iff ?_).mp H.nd
  rw[List.append_assoc,List.append_assoc]
  exact List.Perm.append_left as List.perm_append_comm
 ·intro i a o e1 e2
  rcases Nat.lt_or_ge i as.length with hi | hi
  ·rw[List.append_assoc,List.getElem?_append_left hi] at e1
   rw[List.append_assoc,List.getElem?_append_left (by exact r1 ‹_› ‹_›)] at e2
   exact⟨i,ap (ap e1 _) _,ap (ap e2 _) _⟩
  ·obtain⟨j,rfl⟩ : ∃ j,i=as.length + j:=⟨i - as.length,xc hi⟩
   rw[List.append_assoc,List.getElem?_append_right (by assumption),Nat.add_sub_cancel_left] at e1
   rw[List.append_assoc,h1,List.getElem?_append_right (by with_reducible exact Nat.le_add_right _ _),Nat.add_sub_cancel_left] at e2
   rcases Nat.lt_or_ge j cs.length with hj | hj
   ·rw[List.getElem?_append_left hj] at e1
    rw[List.getElem?_append_left (by exact r1 ‹_› ‹_›)] at e2
    exact⟨(as ++ bs).length + j,Zw rfl e1,Zw (by simp;rw[h1,h2]) e2⟩
   ·obtain⟨m,rfl⟩ : ∃ m,j=cs.length + m:=⟨j - cs.length,xc hj⟩
    rw[List.getElem?_append_right (by assumption),Nat.add_sub_cancel_left] at e1
    rw[h3,List.getElem?_append_right (by with_reducible exact Nat.le_add_right _ _),Nat.add_sub_cancel_left] at e2
    exact⟨as.length + m,ap (Zw rfl e1) _,ap (Zw h1 e2) _⟩
noncomputable abbrev TR:=Int × Int × List Int
noncomputable def tri (N : List Int) (np : Int→Int) (sc : Int→List Int) : List TR:=N.map fun n=>(n,np n,sc n)
noncomputable def upd {β : Type}(f : Int→β) (k : Int) (v : β) : Int→β:=fun i=>if i=k then v else f i
theorem upd_eq {β : Type}(f : Int→β) (k : Int) (v : β) : upd f k v k=v:=by simp[upd]
theorem Xf {β : Type}(f : Int→β) {k i : Int}(v : β) (h : i≠k) : upd f k v i=f i:=by simp[upd,h]
theorem Mz (N : List Int) (np : Int→Int) (sc : Int→List Int) : (tri N np sc).map (·.1)=N:=by simp[tri,Function.comp_def]
theorem Mq {N : List Int}{np : Int→Int}{sc : Int→List Int}{k : Int}(h : k ∉ N) : U4 (tri N np sc) k=tri (N ++ [k]) (upd np k 0) (upd sc k []):=by
 unfold U4
 rw[Mz,if_neg h]
 simp only[tri,List.map_append,List.map_cons,List.map_nil,upd_eq]
 congr 1
 refine List.map_congr_left fun n hn=>?_
 have : n≠k:=fun e=>h (e ▸ hn)
 rw[Xf _ _ this,Xf _ _ this]
theorem vAdd_old {N : List Int}{np : Int→Int}{sc : Int→List Int}{k : Int}(h : k∈N) : U4 (tri N np sc) k=tri N np sc:=by
 unfold U4
 rw[Mz,if_pos h]
theorem Jz (N : List Int) (np : Int→Int) (sc : Int→List Int) (k n : Int) : U5 (tri N np sc) k n=tri N (upd np k (np k + n)) sc:=by
 simp only[U5,tri,List.map_map]
 refine List.map_congr_left fun m hm=>?_
 simp only[Function.comp,upd]
 split
 ·rename_i h;simp[h]
 ·rfl
theorem Ve (N : List Int) (np : Int→Int) (sc : Int→List Int) (k p : Int) : Mm (tri N np sc) k p=tri N np (upd sc p (sc p ++ [k])):=by
 simp only[Mm,tri,List.map_map]
 refine List.map_congr_left fun m hm=>?_
 simp only[Function.comp,upd]
 split
 ·rename_i h;simp[h]
 ·rfl
noncomputable def oA (o : List Int) (j : Nat) : Int:=2 * o.getD j 0 + 0
noncomputable def oB (o : List Int) (j : Nat) : Int:=2 * o.getD j 0 + 1
noncomputable def pv (o : List Int) (k : Nat) (p : Int) : List Int:=if k=0 then [] else [2 * o.getD (k - 1) 0 + p]
noncomputable def VI (o : List Int) (k : Nat) (l : List TR) : Nat→List TR
 | 0=>l
 | p + 1=>V2 (VI o k l p) (2 * o.getD k 0 + (p : Int)) (pv o k p)
noncomputable def VV (o : List Int) : Nat→List TR
 | 0=>[]
 | k + 1=>V2 (VI o k (VV o k) 2) (2 * o.getD k 0 + 1) [2 * o.getD k 0]
noncomputable def NN (o : List Int) : Nat→List Int
 | 0=>[]
 | k + 1=>NN o k ++ [oA o k,oB o k]
theorem o_inj {o : List Int}(hn : o.Nodup) {i j : Nat}(hi : i < o.length) (hj : j < o.length) (h : o.getD i 0=o.getD j 0) : i=j:=by
 rw[List.getD_eq_getElem?_getD,List.getD_eq_getElem?_getD,Nc hi,Nc hj] at h
 simp only[Option.getD_some] at h
 exact (List.getElem_inj (h₀:=hi) (h₁:=hj) hn).mp h
theorem Vz {o : List Int}{x : Int}{k : Nat} : x∈NN o k ↔ ∃ j < k,x=oA o j∨x=oB o j:=by
 induction k with
 | zero=>simp[NN]
 | succ k ih =>
  simp only[NN,List.mem_append,ih,List.mem_cons,List.not_mem_nil,or_false]
  constructor
  ·rintro (⟨j,hj,h⟩ | h)
   ·exact⟨j,Nat.lt_succ_of_lt hj,h⟩
   ·exact⟨k,Nat.lt_succ_self _,h⟩
  ·rintro⟨j,hj,h⟩
   rcases Nat.lt_or_eq_of_le (Nat.le_of_lt_succ hj) with q | rfl
   ·exact .inl ⟨j,q,h⟩
   ·exact .inr h
structure GV (o : List Int) (k : Nat) (np : Int→Int) (sc : Int→List Int) : Prop where
 npA : ∀ j < k,np (oA o j)=if j=0 then 0 else 1
 npB : ∀ j < k,np (oB o j)=if j=0 then 1 else 2
 scA : ∀ j < k,sc (oA o j)=oB o j :: if j + 1 < k then [oA o (j + 1)] else []
 scB : ∀ j < k,sc (oB o j)=if j + 1 < k then [oB o (j + 1)] else []
theorem AB (o : List Int) (i j : Nat) : oA o i≠oB o j:=fun e=>absurd ((xa _).2.symm.trans ((congrArg (· % 2) e).trans (xb _).2)) (by decide)
theorem AA {o : List Int}(hn : o.Nodup) {i j : Nat}(hi : i < o.length) (hj : j < o.length) (h : i≠j) : oA o i≠oA o j:=fun e=>h (o_inj hn hi hj ((xa _).1.symm.trans ((congrArg (· / 2) e).trans (xa _).1)))
theorem BB {o : List Int}(hn : o.Nodup) {i j : Nat}(hi : i < o.length) (hj : j < o.length) (h : i≠j) : oB o i≠oB o j:=fun e=>h (o_inj hn hi hj ((xb _).1.symm.trans ((congrArg (· / 2) e).trans (xb _).1)))
noncomputable abbrev upN (np : Int→Int) (A n : Int) : Int→Int:=upd (upd np A 0) A (upd np A 0 A + n)
noncomputable abbrev upS (sc : Int→List Int) (A p : Int) : Int→List Int:=upd (upd sc A []) p (upd sc A [] p ++ [A])
theorem Jj {α : Type}(f : Int→α) (k : Int) (v : α) : upd f k v k=v:=if_pos rfl
theorem M8 {np : Int→Int}{A n x : Int}(h : x≠A) : upN np A n x=np x:=(Xf _ _ h).trans (Xf _ _ h)
theorem upN_eq {np : Int→Int}{A n : Int} : upN np A n A=0 + n:=(Jj _ _ _).trans (congrArg (· + n) (Jj _ _ _))
theorem M7 {sc : Int→List Int}{A p x : Int}(h : x≠A) (k : x≠p) : upS sc A p x=sc x:=(Xf _ _ k).trans (Xf _ _ h)
theorem upS_p {sc : Int→List Int}{A p : Int}(h : p≠A) : upS sc A p p=sc p ++ [A]:=(Jj _ _ _).trans (congrArg (· ++ [A]) (Xf _ _ h))
theorem upS_A {sc : Int→List Int}{A p : Int}(h : A≠p) : upS sc A p A=[]:=(Xf _ _ h).trans (Jj _ _ _)
theorem VI2_tri {o : List Int}(hn : o.Nodup) {k : Nat}(hk : k < o.length) {np : Int→Int}{sc : Int→List Int}(G : GV o k np sc) :
 ∃ np' sc',V2 (VI o k (tri (NN o k) np sc) 2) (oB o k) [2 * o.getD k 0]=tri (NN o (k + 1)) np' sc'∧GV o (k + 1) np' sc':=by
 have hA : oA o k ∉ NN o k:=fun q=>by
  obtain⟨j,hj,h | h⟩:=Vz.mp q
  ·exact AA hn hk (S8 hj hk) (Nat.ne_of_gt hj) h
  ·exact AB o k j h
 have hB : oB o k ∉ NN o k ++ [oA o k]:=fun q=>by
  rcases Nh q with q | q
  ·obtain⟨j,hj,h | h⟩:=Vz.mp q
   ·exact AB o j k h.symm
   ·exact BB hn hk (S8 hj hk) (Nat.ne_of_gt hj) h
  ·exact AB o k k (List.mem_singleton.mp q).symm
 have hB2 : oB o k∈NN o k ++ [oA o k] ++ [oB o k]:=List.mem_append_right _ (.head _)
 have hNN : NN o k ++ [oA o k] ++ [oB o k]=NN o (k + 1):=List.append_assoc _ _ _
 have e2 : (2 * o.getD k 0 : Int)=oA o k:=(Int.add_zero _).symm
 have n0 : (2 * o.getD k 0 + ((0 : Nat) : Int))=oA o k:=rfl
 have n1 : (2 * o.getD k 0 + ((1 : Nat) : Int))=oB o k:=rfl
 have ab:=fun j=>AB o j k
 have ba:=fun j=>(AB o k j).symm
 have la:=fun j (q : j < k)=>AA hn (S8 q hk) hk (Nat.ne_of_lt q)
 have lb:=fun j (q : j < k)=>BB hn (S8 q hk) hk (Nat.ne_of_lt q)
 by_cases h0 : k=0
 ·subst h0
  simp only[VI,pv,if_true,n0,n1,V2,List.foldl_nil,List.foldl_cons,List.length_nil,List.length_cons]
  simp only[e2]
  rw[Mq hA,Jz,Mq hB,Jz,vAdd_old hB2,Jz,Ve,hNN]
  refine⟨_,_,rfl,fun j hj=>?_,fun j hj=>?_,fun j hj=>?_,fun j hj=>?_⟩ <;> obtain rfl:=Nat.lt_one_iff.mp hj
  ·exact (Xf _ _ (ab 0)).trans ((M8 (ab 0)).trans upN_eq)
  ·exact (Jj _ _ _).trans (congrArg (· + 1) upN_eq)
  ·exact (Jj _ _ _).trans (congrArg (· ++ [oB o 0]) ((Xf _ _ (ab 0)).trans (Jj _ _ _)))
  ·exact (Xf _ _ (ba 0)).trans (Jj _ _ _)
 ·have hk1 : k - 1 + 1=k:=Nat.sub_add_cancel (Nat.pos_of_ne_zero h0)
  have hkk : k - 1 < k:=Nat.sub_lt (Nat.pos_of_ne_zero h0) Nat.one_pos
  have pA : (2 * o.getD (k - 1) 0 + ((0 : Nat) : Int))=oA o (k - 1):=rfl
  have pB : (2 * o.getD (k - 1) 0 + ((1 : Nat) : Int))=oB o (k - 1):=rfl
  have hp:=S8 hkk hk
  simp only[VI,pv,if_neg h0,n0,n1,pA,pB,V2,List.foldl_nil,List.foldl_cons,List.length_nil,List.length_cons]
  simp only[e2]
  rw[Mq hA,Jz,Ve,Mq hB,Jz,Ve,vAdd_old hB2,Jz,Ve,hNN]
  refine⟨_,_,rfl,fun j hj=>?_,fun j hj=>?_,fun j hj=>?_,fun j hj=>?_⟩ <;> rcases Nat.lt_or_eq_of_le (Nat.le_of_lt_succ hj) with q | rfl
  ·exact (Xf _ _ (ab j)).trans ((M8 (ab j)).trans ((M8 (la j q)).trans (G.npA j q)))
  ·rw[if_neg h0];exact (Xf _ _ (ab j)).trans ((M8 (ab j)).trans upN_eq)
  ·exact (Xf _ _ (lb j q)).trans ((M8 (lb j q)).trans ((M8 (ba j)).trans (G.npB j q)))
  ·rw[if_neg h0];exact (Jj _ _ _).trans (congrArg (· + 1) upN_eq)
  ·rw[if_pos (Nat.succ_lt_succ q)]
   refine (Xf _ _ (la j q)).trans ((M7 (ab j) (AB o j _)).trans ?_)
   by_cases q1 : j=k - 1
   ·subst q1;rw[hk1];exact (upS_p (la _ q)).trans (by rw[G.scA _ q,hk1,if_neg (Nat.lt_irrefl k)];rfl)
   ·exact (M7 (la j q) (AA hn (S8 q hk) hp q1)).trans (by rw[G.scA j q,if_pos (Nat.add_lt_of_lt_sub (Nat.lt_of_le_of_ne (Nat.le_pred_of_lt q) q1))])
  ·rw[if_neg (Nat.lt_irrefl _)]
   exact (Jj _ _ _).trans (congrArg (· ++ [oB o j]) ((M7 (ab j) (AB o j _)).trans (upS_A (AA hn hk hp (Nat.ne_of_gt hkk)))))
  ·rw[if_pos (Nat.succ_lt_succ q)]
   refine (Xf _ _ (ba j)).trans ?_
   by_cases q1 : j=k - 1
   ·subst q1;rw[hk1];have e : sc (oB o (k - 1))=[]:=by rw[G.scB _ q,hk1,if_neg (Nat.lt_irrefl k)]
    exact (upS_p (lb _ q)).trans (congrArg (· ++ [oB o k]) ((M7 (sc:=sc) (ba (k - 1)) (AB o (k - 1) (k - 1)).symm).trans e))
   ·exact (M7 (lb j q) (BB hn (S8 q hk) hp q1)).trans ((M7 (ba j) (AB o _ j).symm).trans (by rw[G.scB j q,if_pos (Nat.add_lt_of_lt_sub (Nat.lt_of_le_of_ne (Nat.le_pred_of_lt q) q1))]))
  ·rw[if_neg (Nat.lt_irrefl _)]
   exact (Xf _ _ (ba j)).trans (upS_A (BB hn hk hp (Nat.ne_of_gt hkk)))
theorem VV_tri {o : List Int}(hn : o.Nodup) (k : Nat) (hk : k≤o.length) : ∃ np sc,VV o k=tri (NN o k) np sc∧GV o k np sc:=by
 induction k with
 | zero=>exact⟨fun o_=>0,fun o_=>[],rfl,⟨fun j h=>by contradiction,fun j h=>by contradiction,fun j h=>by contradiction,fun j h=>by contradiction⟩⟩
 | succ k ih =>
  obtain⟨np,sc,e,G⟩:=ih (Nat.le_of_succ_le hk)
  obtain⟨np',sc',e',G'⟩:=VI2_tri hn hk G
  refine⟨np',sc',?_,G'⟩
  rw[← e',VV,e]
  rfl
theorem Ty (l : List TR) (k : Int) (ps : List Int) : (V2 l k ps).map (·.1)=(U4 l k).map (·.1):=by
 unfold V2;rw[Vx,Tf]
theorem Sn (l : List TR) (k : Int) : (U4 l k).map (·.1)=if k∈l.map (·.1) then l.map (·.1) else l.map (·.1) ++ [k]:=by
 unfold U4;split <;> simp
theorem mem_aAdd {l : List TR}{k x : Int}{ps : List Int} : x∈(V2 l k ps).map (·.1) ↔ x∈l.map (·.1)∨x=k:=by
 rw[Ty,Sn]
 split
 ·rename_i h
  constructor
  ·exact .inl
  ·rintro (h' | rfl)
   ·exact h'
   ·exact h
 ·simp
theorem aAdd_sc {l : List TR}{k : Int}{ps : List Int}{m : Nat}(h : ∀ r∈l,r.2.2.length≤m) : ∀ r∈V2 l k ps,r.2.2.length≤m + ps.length:=by
 unfold V2
 have h1 : ∀ r∈U5 (U4 l k) k ps.length,r.2.2.length≤m:=by
  intro r hr
  unfold U5 U4 at hr
  obtain⟨q,hq,rfl⟩:=Ng hr
  have : q.2.2.length≤m:=by
   split at hq
   ·exact h q hq
   ·rcases Nh hq with hq | hq
    ·exact h q hq
    ·simp at hq;subst hq;simp
  split <;> simpa using this
 generalize U5 (U4 l k) k ps.length=l' at h1
 induction ps generalizing l' m with
 | nil=>simpa using h1
 | cons p ps ih =>
  intro r hr
  have:=ih (m:=m + 1) (fun r hr=>Nat.le_succ_of_le (h r hr)) (Mm l' k p) (by
   intro r hr
   unfold Mm at hr
   obtain⟨q,hq,rfl⟩:=Ng hr
   have:=h1 q hq
   split <;> simp <;> (first | assumption | lia)) r hr
  simp only[List.length_cons];exact S7 this (S9 ((Nat.add_right_comm ..).trans (Nat.add_assoc ..)))
theorem bindL_local {kindOf : Str→Option NameKind}{b : List (Str × Value)}{m : Str→Option Value}(h : ∀ x∈b,kindOf x.1=some .local) (y : Str) : bindL kindOf b m y=(b.reverse.lookup y).or (m y):=by
 induction b generalizing m with
 | nil=>rfl
 | cons x r ih =>
  obtain⟨n,u⟩:=x
  rw[bindL,if_pos (h (n,u) (.head _)),ih (fun x hx=>h x (.tail _ hx)),List.reverse_cons,List.lookup_append]
  cases r.reverse.lookup y with
  | some w=>rfl
  | none =>
   simp only[Option.none_or,List.lookup_cons,List.lookup_nil]
   by_cases e : y=n
   ·rw[if_pos e,e,BEq.rfl];rfl
   ·rw[if_neg e,beq_eq_false_iff_ne.mpr e];rfl
theorem Sy {kindOf : Str→Option NameKind}{ps rs : List Str}{xs : List Value}(hl : ps.length=xs.length) (hn : (ps ++ rs).Nodup) (hk : ∀ x∈ps,kindOf x=some .local) :
 bindL kindOf (ps.zip xs) (fun o_=>none)=Ja (ps ++ rs) (xs.map some ++ List.replicate rs.length none):=by
 rw[Xi hl hn]
 funext y
 rw[bindL_local (fun x hx=>hk x.1 (List.of_mem_zip hx).1)]
 simp
noncomputable abbrev Ut : FuncData:=Xl (st 36) "_law_clock" .none (.str "law_dn0072_05" 1378) (.ref 903)
noncomputable abbrev V5 : List PySem.Str:=["order","parts"]
noncomputable abbrev Mn : List PySem.Str:=["sorter","k","clock","hour","node"]
noncomputable abbrev cfCL (L : Addr) : List (PySem.Str × Addr):=[("part",L + 1)]
theorem F_cl : FnC 904 Ut (fnB (st 36)) (V5 ++ Mn) cfCL:=⟨fun P=>by kernel_rfl,fun P=>by kernel_rfl,rfl,by kernel_rfl,dk,dk,dk,rfl,rfl,by kernel_rfl,by kernel_rfl,rfl,fun L=>by kernel_rfl,fun L=>by simp⟩
theorem B_cl (a b : Value) : bindArgs Ut ⟨[a,b],[]⟩=pure (V5.zip [a,b]):=by kernel_rfl
theorem n_ts (P : Params) : nsIn (K P) mainGlobals "TopologicalSorter"=some (some (.ref 183)):=by kernel_rfl
theorem k_ts : Jc 183:=fun P=>by kernel_rfl
theorem mk_ts : makeK 183 119:=fun P=>⟨by kernel_rfl,by kernel_rfl,by kernel_rfl⟩
theorem n_max (P : Params) : nsIn (K P) mainGlobals "max"=some none:=by kernel_rfl
theorem fn_add (P : Params) : fnIn (K P) 133=true:=by kernel_rfl
theorem add_in {x dx D cl : Addr}{sp : Sp}{l : List (Str × Value)}{nd : List NR}{tl : List Addr}{to : List Sp}{k : Int}{t : Tok}{ps : List (Int × Tok)}(hA : Rm A 8) (hh : A.handled=none) (e0 : as.length=os.length) (hl : l.lookup (Str.ofString "_node2info")=some (.ref D)) (hr : l.lookup (Str.ofString "_ready_nodes")=some Value.none) (hno : l.lookup (Str.ofString "_get_nodeinfo")=none)
 (hn : (nd.map (·.node)).Nodup) (hz : nd.length < 600) (hp : ∀ p∈ps,p.1∈nd.map (·.node)) (hpl : ps.length≤1) (hsc : ∀ r∈nd,r.sc.length < 500)
 (H : Led c env g ns vs (as ++ [cl,dx,x,D] ++ nA nd ++ tl) (os ++ [sp,atS l,.ob (Z9 183 dx),dI (nM nd)] ++ nO nd ++ to) h) :
 CD c A (.call (.ref 133) ⟨[.ref x,.int k t] ++ ps.map (fun p=>.int p.1 p.2),[]⟩) (Ul (fun v h'=>v=.none∧∃ nd' : List NR,nd'.map NR.v=V2 (nd.map NR.v) k (ps.map (·.1))∧(nd'.map (·.node)).Nodup ∧
  Led c env g ns vs (as ++ [cl,dx,x,D] ++ nA nd' ++ tl) (os ++ [sp,atS l,.ob (Z9 183 dx),dI (nM nd')] ++ nO nd' ++ to) h') noX) h:=by
 have e4 : ∀ {m : List (Int × Value)},(as ++ [cl,dx,x,D]).length=(os ++ [sp,atS l,.ob (Z9 183 dx),dI m]).length:=fun {m}=>by simp[e0]
 have e3 : ∀ nd : List NR,(nA nd).length=(nO nd).length:=fun nd=>by rw[nA_len,nO_len]
 have et : tl.length=to.length:=xo H.len (List.length_append.trans ((congr (congrArg HAdd.hAdd e4) (e3 nd)).trans List.length_append.symm))
 have H1:=H.rot e4 (e3 nd)
 have es : ∀ {m m' : List (Int × Value)},(os ++ [sp,atS l,.ob (Z9 183 dx),dI m] ++ to).set (as.length + 3) (dI m')=os ++ [sp,atS l,.ob (Z9 183 dx),dI m'] ++ to:=fun {m m'}=>by
  rw[List.append_assoc,U3 e0,List.append_assoc];rfl
 have T : TSt g (as ++ [cl,dx,x,D] ++ tl) (os ++ [sp,atS l,.ob (Z9 183 dx),dI []] ++ to) x dx D (as.length + 3) l:=by
  refine⟨fun m=>?_,fun m=>?_,hl,?_,?_,?_⟩
  ·rw[es];exact .ld (as.length + 2) (ap (Zw rfl rfl) _) (ap (Zw e0 rfl) _)
  ·rw[es];exact .ld (as.length + 1) (ap (Zw rfl rfl) _) (ap (Zw e0 rfl) _)
  ·exact ap (Zw rfl rfl) _
  ·simp;rw[e0];exact Nat.add_lt_add_left (S6 (by decide : 3 < 4) (Nat.le_add_left 4 to.length)) _
  ·simp;rw[e0,et]
 have H2 : Led c env g ns vs (as ++ [cl,dx,x,D] ++ tl ++ nA nd) ((os ++ [sp,atS l,.ob (Z9 183 dx),dI []] ++ to).set (as.length + 3) (dI (nM nd)) ++ nO nd) h:=by rw[es];exact H1
 refine U1 (add_cd hA hh T hr hno hn hz hp hpl hsc H2) fun r h' q=>?_
 cases r with
 | error e=>exact q
 | ok f =>
  cases f with
  | ret v =>
   obtain⟨rfl,nd',q1,q2,H3⟩:=q
   rw[es] at H3
   exact⟨rfl,nd',q1,q2,H3.rot e4 et⟩
  | _=>exact q.elim
noncomputable abbrev gA4 (as : List Addr) (cl dx x D : Addr) (nd : List NR) : List Addr:=as ++ [cl,dx,x,D] ++ nA nd
noncomputable abbrev gO4 (os : List Sp) (cv : Option Value) (dx D : Addr) (t1 t2 : Tok) (nd : List NR) : List Sp:=os ++ [Sp.ce cv,atS (tsA D .none (.int 0 t1) (.int 0 t2)),Sp.ob (Z9 183 dx),dI (nM nd)] ++ nO nd
theorem CD_to {y : Code}{Q Q' : Value→Heap→Prop}(x : CD c A y (Ul Q noX) h) (k : ∀ v h',Q v h'→Q' v h') : CD c A y (Ul Q' X) h:=
 U1 x fun r h' q=>by
  cases r with
  | error e=>exact q.elim
  | ok f=>cases f <;> first | exact q.elim | exact k _ _ q
theorem pv_len (o : List Int) (k : Nat) (p : Int) : (pv o k p).length≤1:=by unfold pv;split <;> simp
theorem VI_sc {o : List Int}{k : Nat}{l : List TR}{m : Nat}(h : ∀ r∈l,r.2.2.length≤m) : ∀ p,∀ r∈VI o k l p,r.2.2.length≤m + p
 | 0=>by simpa [VI] using h
 | p + 1=>fun r hr=>by
  have:=aAdd_sc (VI_sc h p) r hr
  exact S7 this (Nat.add_le_add_left (pv_len o k p) _)
theorem VV_sc (o : List Int) : ∀ k,∀ r∈VV o k,r.2.2.length≤3 * k
 | 0=>by simp[VV]
 | k + 1=>fun r hr=>by
  have:=aAdd_sc (VI_sc (VV_sc o k) 2) r hr
  simp at this;assumption
theorem VI_mem {o : List Int}{k : Nat}{l : List TR}{x : Int}{p : Nat} : x∈(VI o k l p).map (·.1) ↔ x∈l.map (·.1)∨∃ q < p,x=2 * o.getD k 0 + (q : Int):=by
 induction p with
 | zero=>simp[VI]
 | succ p ih =>
  rw[VI,mem_aAdd,ih]
  constructor
  ·rintro ((h | ⟨q,hq,h⟩) | h)
   ·exact .inl h
   ·exact .inr ⟨q,Nat.lt_succ_of_lt hq,h⟩
   ·exact .inr ⟨p,Nat.lt_succ_self _,h⟩
  ·rintro (h | ⟨q,hq,h⟩)
   ·exact .inl (.inl h)
   ·rcases Nat.lt_or_eq_of_le (Nat.le_of_lt_succ hq) with hp | rfl
    ·exact .inl (.inr ⟨q,hp,h⟩)
    ·exact .inr h
theorem VV_mem {o : List Int}{x : Int}{k : Nat} : x∈(VV o k).map (·.1) ↔ ∃ j < k,∃ q < 2,x=2 * o.getD j 0 + ((q : Nat) : Int):=by
 induction k with
 | zero=>simp[VV]
 | succ k ih =>
  rw[VV,mem_aAdd,VI_mem,ih]
  constructor
  ·rintro ((⟨j,hj,h⟩ | h) | h)
   ·exact⟨j,Nat.lt_succ_of_lt hj,h⟩
   ·exact⟨k,Nat.lt_succ_self _,h⟩
   ·exact⟨k,Nat.lt_succ_self _,1,by decide,h⟩
  ·rintro⟨j,hj,h⟩
   rcases Nat.lt_or_eq_of_le (Nat.le_of_lt_succ hj) with hp | rfl
   ·exact .inl (.inl ⟨j,hp,h⟩)
   ·exact .inl (.inr h)
theorem two_at {t u : Tok}{j : Nat}{v : Value}(h : [Value.int 0 t,Value.int 1 u][j]?=some v) : ∃ w,v=.int (j : Int) w:=by
 cases j with
 | zero=>exact⟨t,(Option.some.inj h).symm⟩
 | succ j=>cases j with
  | zero=>exact⟨u,(Option.some.inj h).symm⟩
  | succ j=>cases h
theorem Ti (l : List TR) (k : Int) (ps : List Int) : (V2 l k ps).length≤l.length + 1:=by
 have:=congrArg List.length (Ty l k ps)
 rw[Sn] at this
 simp only[List.length_map] at this
 split at this <;> simp at this <;> (first | exact S9 ‹_› | lia)
theorem Vq (o : List Int) (k : Nat) (l : List TR) : ∀ p,(VI o k l p).length≤l.length + p
 | 0=>by simp[VI]
 | p + 1=>by have:=Ti (VI o k l p) (2 * o.getD k 0 + (p : Int)) (pv o k p);rw[VI];exact xe this (Vq o k l p)
theorem M3 (o : List Int) : ∀ k,(VV o k).length≤3 * k
 | 0=>by simp[VV]
 | k + 1=>by have:=Ti (VI o k (VV o k) 2) (2 * o.getD k 0 + 1) [2 * o.getD k 0];rw[VV];exact S7 (xe this (Vq o k (VV o k) 2)) (Nat.add_le_add_right (M3 o k) 3)
theorem sc_of {nd : List NR}{V : List TR}(h : nd.map NR.v=V) {m : Nat}(hs : ∀ r∈V,r.2.2.length≤m) : ∀ r∈nd,r.sc.length≤m:=fun r hr=>by
 have:=hs r.v (h ▸ List.mem_map_of_mem hr)
 simpa [NR.v] using this
theorem St {nd : List NR}{V : List TR}(h : nd.map NR.v=V) : nd.map (·.node)=V.map (·.1):=by rw[← h,J0]
theorem one_local {vs' : List (Option Value)}(h : vs'.length=1) : ∃ w0,vs'=[w0]:=by
 cases vs' with
 | nil=>simp at h
 | cons w0 r=>cases r with
  | nil=>exact⟨w0,rfl⟩
  | cons _ _=>simp at h
theorem pick_pv {ord : List Int}{i j : Nat}(hi : i < ord.length) : ((ord.drop (i - 1)).take (i - (i - 1))).map (fun y=>2 * y + (j : Int))=pv ord i j:=by
 unfold pv
 by_cases h0 : i=0
 ·subst h0;simp
 ·rw[if_neg h0,show i - (i - 1)=1 from Nat.sub_sub_self (Nat.pos_of_ne_zero h0),List.take_one,List.head?_drop,List.getD_eq_getElem?_getD,Nc (show i - 1 < ord.length from S5 (Nat.sub_le _ _) hi)]
  simp
theorem Led.asc {a b d : List Addr}{o p q : List Sp}(H : Led c env g ns vs (a ++ b ++ d) (o ++ p ++ q) h) : Led c env g ns vs (a ++ (b ++ d)) (o ++ (p ++ q)) h:=List.append_assoc a b d ▸ List.append_assoc o p q ▸ H
theorem Led.cut2 {a t : List Addr}{x y : Addr}{o u : List Sp}{p q : Sp}(e : a.length=o.length) (H : Led c env g ns vs (a ++ ([x,y] ++ t)) (o ++ ([p,q] ++ u)) h) : Led c env g ns vs (a ++ [x] ++ [y]) (o ++ [p] ++ [q]) h:=by
 have H1:=H.take (a ++ [x,y]).length
 rw[← List.append_assoc,List.take_left' rfl,show (a ++ [x,y]).length=(o ++ [p,q]).length by simp[e],← List.append_assoc,List.take_left' rfl] at H1
 simpa using H1
theorem clk_build {L O P : Addr}{ord : List Int}{ovs : List Value}{Q : Flow→Heap→Prop}(hA : Rm A 12) (hh : A.handled=none)
 (H : Led c (callEnvC Ut L 904) g (V5 ++ Mn) [some (.ref O),some (.ref P),none,none,none,none,none] (as ++ [L + 1]) (os ++ [.ce none]) h)
 (zO : At g.hp O (.li ovs)) (hO : pI ord ovs) (hn : ord.Nodup) (hz : ord.length < 100) (e0 : as.length=os.length)
 (k : ∀ (x dx D : Addr) (t1 t2 : Tok) (g' : Bas) (nd : List NR) (kv cv : Option Value) (h' : Heap),g.hp.StaysIn g'.hp→g'.fo=g.fo→(D == sysModules)=false→nd.map NR.v=VV ord ord.length→(nd.map (·.node)).Nodup →
  Led c (callEnvC Ut L 904) g' (V5 ++ Mn) [some (.ref O),some (.ref P),some (.ref x),kv,none,none,none] (gA4 as (L + 1) dx x D nd) (gO4 os cv dx D t1 t2 nd) h'→W c A (execs ((fnB (st 36)).drop 2) (callEnvC Ut L 904)) Q noX h') :
 W c A (execs (fnB (st 36)) (callEnvC Ut L 904)) Q noX h:=by
 have hol : ovs.length=ord.length:=hO.length.symm
 refine Zz (ex_call0 (Xm (by rfl) n_ts) k_ts (fun h₁ H1=>w_make H1 mk_ts fun dx x h₂ H2=>?_) h H)
 have hne : x≠dx:=fun e=>by
  have:=H2.nd
  rw[e] at this
  simp[List.nodup_append] at this
 refine U1 (ts_init (j:=as.length + 1) ((hA.mono (by decide : 3≤12)).under 183 _ _) H2 (ap (by rw[List.append_assoc];exact Zw rfl rfl) _) (ap (by rw[List.append_assoc];exact Zw e0 rfl) _) (.ld (as.length + 2) (by simp) (by simp[e0])) hne) fun r h₃ q=>?_
 cases r with
 | error e=>exact q
 | ok f =>
  cases f with
  | ret v =>
   obtain⟨rfl,D,t1,t2,hD,H3⟩:=q
   refine⟨rfl,?_⟩
   refine Zp 2 rfl rfl H3 fun h4 H4=>?_
   have H5 : Led c (callEnvC Ut L 904) g (V5 ++ Mn) [some (.ref O),some (.ref P),some (.ref x),none,none,none,none] (gA4 as (L + 1) dx x D []) (gO4 os none dx D t1 t2 []) h4:=by
    have e1 : as ++ [L + 1] ++ [dx] ++ [x] ++ [D]=gA4 as (L + 1) dx x D []:=by simp[nA]
    have e2 : ((os ++ [Sp.ce none] ++ [atS []] ++ [Sp.ob (Z9 183 dx)]).set (as.length + 1) (atS (tsA D .none (.int 0 t1) (.int 0 t2)))) ++ [dI []]=gO4 os none dx D t1 t2 []:=by
     rw[e0];simp[nO,nM]
    rw[e1,e2] at H4;exact H4
   have iA : ∀ {j : Nat}{a : Addr}{nd : List NR}{tl : List Addr},[L + 1,dx,x,D][j]?=some a→(gA4 as (L + 1) dx x D nd ++ tl)[as.length + j]?=some a:=fun hj=>ap (ap (Zw rfl hj) _) _
   have iO : ∀ {j : Nat}{o : Sp}{cv : Option Value}{nd : List NR}{to : List Sp},[Sp.ce cv,atS (tsA D .none (.int 0 t1) (.int 0 t2)),Sp.ob (Z9 183 dx),dI (nM nd)][j]?=some o→(gO4 os cv dx D t1 t2 nd ++ to)[as.length + j]?=some o:=fun hj=>ap (ap (Zw e0 hj) _) _
   have Ix : ∀ {g' : Bas}{cv : Option Value}{nd : List NR}{tl : List Addr}{to : List Sp},Loc g' (gA4 as (L + 1) dx x D nd ++ tl) (gO4 os cv dx D t1 t2 nd ++ to) x (.ob (Z9 183 dx)):=.ld (as.length + 2) (iA rfl) (iO rfl)
   have Dx : ∀ {g' : Bas}{cv : Option Value}{nd : List NR}{tl : List Addr}{to : List Sp},Loc g' (gA4 as (L + 1) dx x D nd ++ tl) (gO4 os cv dx D t1 t2 nd ++ to) dx (atS (tsA D .none (.int 0 t1) (.int 0 t2))):=.ld (as.length + 1) (iA rfl) (iO rfl)
   have sC : ∀ {cv cv' : Option Value}{nd : List NR}{to : List Sp},(gO4 os cv dx D t1 t2 nd ++ to).set (as.length + 0) (.ce cv')=gO4 os cv' dx D t1 t2 nd ++ to:=fun {cv cv' nd to}=>by
    unfold gO4
    rw[List.append_assoc,List.append_assoc,U3 e0,List.append_assoc,List.append_assoc];rfl
   refine (?_ : SB c _ _ _ _ _ _ _ _ _ _) h4 H5
   clear H5 H4 H3 H2 H
   refine X9 (fun h'=>Ex4 fun (g' : Bas) (nd : List NR) (kv cv : Option Value)=>An5 (g.hp.StaysIn g'.hp) (g'.fo=g.fo) (nd.map NR.v=VV ord ord.length) ((nd.map (·.node)).Nodup) (Led c (callEnvC Ut L 904) g' (V5 ++ Mn) [some (.ref O),some (.ref P),some (.ref x),kv,none,none,none] (gA4 as (L + 1) dx x D nd) (gO4 os cv dx D t1 t2 nd) h')) ?_ (fun h' q=>by obtain⟨g',nd,kv,cv,q1,q2,q3,q4,H'⟩:=q;exact k x dx D t1 t2 g' nd kv cv h' q1 q2 hD q3 q4 H')
   intro F'
   refine fun h' H'=>U7 H' (Zr (by rfl) Jv boot_range) (Uh (Zr (by rfl) Uf boot_len) (Za 0 rfl rfl) (.fz zO) (by exact q5 ‹_› ‹_› (by decide))) (yd _) (s9 (S5 (S9 ‹_›) hz) (by decide)) fun it h'' H''=>?_
   refine⟨it,(ovs.length : Int).toNat,fun i=>.itR (0 + (i : Int)) (((ovs.length : Int).toNat : Int) - (i : Int)) 1,fun i v=>isI (0 + (i : Int)) v,fun o_=>True,
    fun i g' vs' as' os'=>Ex3 fun (nd : List NR) (kv cv : Option Value)=>An7 (g.hp.StaysIn g'.hp) (g'.fo=g.fo) (nd.map NR.v=VV ord i) ((nd.map (·.node)).Nodup) (vs'=[some (.ref O),some (.ref P),some (.ref x),kv,none,none,none]) (as'=gA4 as (L + 1) dx x D nd) (os'=gO4 os cv dx D t1 t2 nd),
    rfl,J4 hh,⟨g,_,_,_,⟨[],none,none,Zt _,rfl,rfl,by simp,rfl,rfl,rfl⟩,H''⟩,fun o_ o_ o_ o_ o_ o_=>trivial,?_,?_⟩
   ·rintro J' i QL g₁ o_ o_ o_ v h₁ hi ⟨nd,kv,cv,s1,f1,v1,n1,rfl,rfl,rfl⟩ ⟨t,rfl⟩ H1
    refine H1.lv ?_
    intro vl H1
    have hi' : i < ord.length:=by exact r1 ‹_› ‹_›
    refine Yp 3 rfl rfl H1 fun h₂ H2=>?_
    refine (?_ : SB c _ _ _ _ _ _ _ _ _ _) h₂ H2
    clear H2 H1
    obtain⟨oi,hoi⟩ : ∃ oi,ord[i]?=some oi:=⟨_,Nc hi'⟩
    have hgd : ord.getD i 0=oi:=by rw[List.getD_eq_getElem?_getD,hoi];rfl
    obtain⟨ov,hov,ti,rfl⟩:=Sz hO hoi
    have hov' : ovs[(0 + (i : Int)).toNat]?=some (.int oi ti):=by rw[show (0 + (i : Int)).toNat=i by exact Nat.add_comm _ _];exact hov
    refine X9 (fun h'=>Ex3 fun (g' : Bas) (nd : List NR) (cv : Option Value)=>An5 (g.hp.StaysIn g'.hp) (g'.fo=g.fo) (nd.map NR.v=VI ord i (VV ord i) 2) ((nd.map (·.node)).Nodup) (Led c (callEnvC Ut L 904) g' (V5 ++ Mn) [some (.ref O),some (.ref P),some (.ref x),some (.int (0 + (i : Int)) t),none,none,none] (gA4 as (L + 1) dx x D nd ++ [it]) (gO4 os cv dx D t1 t2 nd ++ [.itR (0 + ((i + 1 : Nat) : Int)) (((ovs.length : Int).toNat : Int) - ((i + 1 : Nat) : Int)) 1]) h')) ?_ ?_
    intro F'
    refine fun h' H'=>Yr (Y7 H' ev_i fun ta=>Y7 H' ev_i fun tb=>Zd ⟨by rw[sizeLine_eq];simp,?_⟩)
    ·obtain⟨T,hT⟩ : ∃ T,T=h'.objs.size:=⟨_,rfl⟩
     obtain⟨g2,q1,q2,H3,zT⟩:=(H'.newT [.int 0 ta,.int 1 tb]).solid
     rw[← hT] at zT ⊢
     refine Vl H3 (.fz zT) fun it2 h4 H4=>?_
     refine⟨it2,2,fun j=>.itT T j,fun j v=>[Value.int 0 ta,Value.int 1 tb][j]?=some v,fun g=>At g T (.tu [.int 0 ta,.int 1 tb]),
      fun j g' vs' as' os'=>Ex2 fun (nd : List NR) (cv : Option Value)=>An7 (g2.hp.StaysIn g'.hp) (g'.fo=g.fo) (nd.map NR.v=VI ord i (VV ord i) j) ((nd.map (·.node)).Nodup) (vs'=[some (.ref O),some (.ref P),some (.ref x),some (.int (0 + (i : Int)) t),none,none,none]) (as'=gA4 as (L + 1) dx x D nd ++ [it]) (os'=gO4 os cv dx D t1 t2 nd ++ [.itR (0 + ((i + 1 : Nat) : Int)) (((ovs.length : Int).toNat : Int) - ((i + 1 : Nat) : Int)) 1]),
      rfl,Jn (l:=[.int 0 ta,.int 1 tb]) hh,⟨g2,_,_,_,⟨nd,cv,Zt _,q2.trans f1,v1,n1,rfl,rfl,rfl⟩,H4⟩,by rintro _ _ _ _ _ ⟨_,_,q,_⟩;exact zT.stay q,?_,?_⟩
     ·rintro J' j QL g₃ o_ o_ o_ v h5 hj ⟨nd2,cv2,s3,f3,v3,n3,rfl,rfl,rfl⟩ hv H5
      refine H5.lv ?_
      intro vl H5
      obtain⟨tv,rfl⟩ : ∃ tv,v=.int (j : Int) tv:=two_at hv
      refine T5 (as.length + 0) (by rfl) (by rfl) (iA rfl) (iO rfl) H5.asc fun h6 H6=>?_
      refine Yj (w_mcallS (H6.osE sC) (Za 2 rfl rfl) Ix Dx mk_add (by kernel_rfl) bd_add fn_add fun q h7 H7=>?_)
      have H7:=H7.asc
      have zO3:=zO.stay (Zc s1 (Zc q1 s3))
      refine Y7 H7 (Ji (Uj ev_i ((Yc (Za 0 rfl rfl) (Zj 3 rfl rfl) (.fz zO3) (by lia) (by exact q5 ‹_› ‹_› (by decide)) hov').mono fun v e=>⟨_,e⟩) (IntMulOk.of_left (by decide))) (Mo (by rfl) (by rfl) (.ld (as.length + 0) (iA rfl) (iO rfl)))) fun tn=>?_
      refine w_star (ns:=V5 ++ Mn) (vs:=[some (.ref O),some (.ref P),some (.ref x),some (.int (0 + (i : Int)) t),none,none,none]) (Sh (ns':=["i"]) (cl:=[("part",L + 1)]) H7 ⟨dk,by kernel_rfl,dk,by kernel_rfl,dk,dk,dk⟩
       (Ts H7 (Za 0 rfl rfl) (.fz zO3) (by exact q5 ‹_› ‹_› (by decide)) (ep_w fun h H=>Xj H (Zr (by rfl) n_max PyProof.Rows.boot_max) (Y7 H (T8 (Zj 3 rfl rfl) ev_i) fun t'=>Y7 H ev_i fun t''=>Zd (c_max2 hh H fun t h' H'=>⟨⟨t,rfl⟩,H'⟩))) (ep_ev (Zj 3 rfl rfl)) Vf (by simp) fun r h8 H8=>?_))
      have hpick : slicePick ovs.toArray (some (max (0 + (i : Int) - 1) 0)) (some (0 + (i : Int))) none=slicePick ovs.toArray (some ((i - 1 : Nat) : Int)) (some ((i : Nat) : Int)) none:=by
       rw[show max (0 + (i : Int) - 1) 0=((i - 1 : Nat) : Int) by rw[Int.zero_add];exact (Int.toNat_eq_max ..).symm.trans (congrArg _ (Int.toNat_sub i 1)),show (0 + (i : Int))=((i : Nat) : Int) by exact Int.add_comm _ _]
      rw[hpick] at H8
      have hsl:=ints_run hO (x:=i - 1) (y:=i) (by with_reducible exact Nat.sub_le _ _) (by exact r7 ‹_›)
      obtain⟨sl,hsl'⟩ : ∃ sl,sl=(slicePick ovs.toArray (some ((i - 1 : Nat) : Int)) (some ((i : Nat) : Int)) none).toList:=⟨_,rfl⟩
      rw[← hsl'] at H8 hsl
      obtain⟨pr,hpr⟩ : ∃ pr,pr=(ord.drop (i - 1)).take (i - (i - 1)):=⟨_,rfl⟩
      rw[← hpr] at hsl
      have hpv : pr.map (fun y=>2 * y + (j : Int))=pv ord i j:=hpr ▸ pick_pv hi'
      have hprl : pr.length≤1:=by rw[← List.length_map,hpv];exact pv_len ord i j
      have hsll : sl.length=pr.length:=hsl.length.symm
      obtain⟨g5,a1,a2,H9,zS⟩:=H8.solid
      refine Jl H9 (.fz zS) fun it3 h10 H10=>?_
      refine .of ⟨g5,it3,sl.length,fun j=>.itL r j,fun j v=>sl[j]?=some v,fun g=>At g r (.li sl),fun m o_ l=>∃ ps : List (Int × Tok),l=ps.map (fun p=>.int p.1 p.2)∧ps.map (·.1)=(pr.take m).map fun y=>2 * y + (j : Int),a1,a2,rfl,Xk hh,zS,H10,by exact q6 ‹_› ‹_› (by decide),?_,fun o_ o_=>⟨[],rfl,by simp⟩,?_,?_⟩
      ·rintro m g' l ⟨ps,rfl,e⟩
       have:=congrArg List.length e
       simp only[List.length_map,List.length_take] at this ⊢;exact this ▸ Nat.min_le_left ..
      ·rintro m g' vs' o_ v h11 E' acc QX QT hm ⟨ps,rfl,hps⟩ st' efs hv' hl' H11
       obtain⟨w0,rfl⟩:=one_local hl'
       have hm' : pr[m]?=some (pr[m]'(by exact r1 ‹_› ‹_›)):=Nc _
       obtain⟨v',e1,ty,rfl⟩:=Sz hsl hm'
       rw[hv'] at e1;cases e1
       refine Yp 0 rfl rfl H11 fun h12 H12=>tests_nil (ifT rfl ?_)
       refine (Ji (Uj ev_i (Zj 0 rfl rfl) (IntMulOk.of_left (by decide))) (Mo (by kernel_rfl) (by rfl) (.ld (as.length + 0) (ap (ap (iA rfl) _) _) (ap (ap (iO rfl) _) _))) : EV c _ _ _ _ _ _ _ _ _).runI H12 fun te=>⟨g',_,Zt _,rfl,rfl,H12,ps ++ [(2 * pr[m]'(by exact r1 ‹_› ‹_›) + (j : Int),te)],?_,?_⟩
       ·simp
       ·show List.map (·.1) (ps ++ _)=List.map _ (pr.take (m + 1))
        rw[List.take_add_one,hm',List.map_append,List.map_append,hps];rfl
      ·rintro g' o_ h11 acc ⟨ps,rfl,hps⟩ st' fo' H11
       rw[hsll,List.take_length,hpv] at hps
       have hpl : ps.length≤1:=by have e:=congrArg List.length hps;rw[List.length_map] at e;exact e ▸ pv_len ord i j
       refine⟨acc,_,g',_,_,rfl,H11,.ld _ (Ze rfl) (Ze H11.len1),by simp;exact S5 hpl (by decide),fun h12 H12=>Zd ⟨H12.kin,?_,?_⟩⟩
       ·obtain⟨o,e,rfl⟩:=H12.at_ _ q (.ob (methodObj (.ref 133) (.ref x))) (ap (Zw (n:=(gA4 as (L + 1) dx x D nd2).length) (i:=2) rfl rfl) _) (ap (Zw (i:=2) (by simp[nA_len,nO_len,e0]) rfl) _)
        exact e
       ·rw[List.append_nil]
        refine CD_to (add_in (ps:=ps) (t:=tn) (k:=2 * oi + (j : Int)) (hA.mono (by decide)) hh e0 Vn Jw (by kernel_rfl) n3 ?_ ?_ hpl ?_ H12.asc) ?_
        ·have v3':=congrArg List.length v3
         rw[List.length_map] at v3'
         exact xf v3' (Vq ord i (VV ord i) j) (S5 (Nat.add_le_add_right (M3 ord i) j) (S8 (xg hi' hz (Na hj)) (by decide)))
        ·intro p hp
         have hpm : p.1∈pv ord i j:=by rw[← hps];exact List.mem_map_of_mem hp
         rw[St v3,VI_mem,VV_mem]
         unfold pv at hpm
         split at hpm
         ·cases hpm
         ·simp at hpm
          exact .inl ⟨i - 1,Nat.sub_lt (Nat.pos_of_ne_zero ‹_›) Nat.one_pos,j,hj,hpm⟩
        ·intro r hr
         exact S5 (sc_of v3 (VI_sc (VV_sc ord i) j) r hr) (xg hi' hz (Na hj))
        ·rintro o_ h13 ⟨rfl,nd3,r1,r2,H13⟩
         refine Zg (fun h15 H15=>?_) h13 (Led.cut2 (by simp[nA_len,nO_len,e0]) H13)
         refine⟨g',_,_,_,⟨nd3,some (.int (j : Int) tv),Zc s3 (Zc a1 st'),fo'.trans (f3),?_,r2,rfl,rfl,rfl⟩,H15⟩
         rw[r1,v3,hps];show _=V2 _ _ _;rw[hgd]
     ·rintro g₃ o_ o_ o_ h5 ⟨nd2,cv2,s3,f3,v3,n3,rfl,rfl,rfl⟩ H5
      exact⟨g₃,nd2,cv2,Zc s1 (Zc q1 s3),f3,v3,n3,H5⟩
    ·rintro h₃ ⟨g3,nd2,cv2,s3,f3,v3,n3,H3⟩
     have zO3:=zO.stay s3
     refine Yj (Uw H3 (Za 2 rfl rfl) Ix Dx mk_add (by kernel_rfl) (Y7 H3 (Ji (Uj ev_i ((Yc (Za 0 rfl rfl) (Zj 3 rfl rfl) (.fz zO3) (by lia) (by exact q5 ‹_› ‹_› (by decide)) hov').mono fun v e=>⟨_,e⟩) (IntMulOk.of_left (by decide))) ev_i) fun tn=>Y7 H3 (Uj ev_i ((Yc (Za 0 rfl rfl) (Zj 3 rfl rfl) (.fz zO3) (by lia) (by exact q5 ‹_› ‹_› (by decide)) hov').mono fun v e=>⟨_,e⟩) (IntMulOk.of_left (by decide))) fun tm=>Zd ⟨H3.kin,Xy (CD_to (add_in (ps:=[(2 * oi,tm)]) (t:=tn) (k:=2 * oi + 1) (hA.mono (by decide)) hh e0 Vn Jw (by kernel_rfl) n3 ?_ ?_ (by simp) ?_ H3) ?_)⟩))
     ·have v3':=congrArg List.length v3
      rw[List.length_map] at v3'
      exact xf v3' (Vq ord i (VV ord i) 2) (S5 (Nat.add_le_add_right (M3 ord i) 2) (S8 (xg hi' hz (Nat.le_refl _)) (by decide)))
     ·intro p hp
      simp at hp;subst hp
      rw[St v3,VI_mem]
      exact .inr ⟨0,by decide,by rw[hgd];simp⟩
     ·intro r hr
      exact S5 (sc_of v3 (VI_sc (VV_sc ord i) 2) r hr) (xg hi' hz (Nat.le_refl _))
     ·rintro o_ h13 ⟨rfl,nd3,r1,r2,H13⟩
      refine Zg (fun h15 H15=>?_) h13 H13
      refine⟨g3,_,_,_,⟨nd3,_,cv2,s3,f3,?_,r2,rfl,rfl,rfl⟩,H15⟩
      rw[r1,v3,VV,hgd];rfl
   ·rintro g₁ o_ o_ o_ h₁ ⟨nd,kv,cv,s1,f1,v1,n1,rfl,rfl,rfl⟩ H1
    rw[show (ovs.length : Int).toNat=ord.length by assumption] at v1
    exact⟨g₁,nd,kv,cv,s1,f1,v1,n1,H1⟩
  | _=>exact q.elim
noncomputable def EA (q : List (Int × Int)) (i : Nat) : Int:=((q.take i).map (·.1)).sum
noncomputable def EB (q : List (Int × Int)) : Nat→Int
 | 0=>0
 | i + 1=>max (EA q (i + 1)) (EB q i) + (q.getD i (0,0)).2
theorem EA_succ {q : List (Int × Int)}{i : Nat}(h : i < q.length) : EA q (i + 1)=EA q i + (q.getD i (0,0)).1:=by
 unfold EA
 rw[List.take_add_one,Nc h,List.getD_eq_getElem?_getD,Nc h]
 simp only[List.map_append,List.sum_append,Option.toList_some,List.map_cons,List.map_nil,List.sum_cons,List.sum_nil,Option.getD_some];lia
noncomputable def act (o : List Int) (a b : Nat) : List Int:=(if b < a then [oB o b] else []) ++ (if a < o.length then [oA o a] else [])
structure CS (o : List Int) (q : List (Int × Int)) (a b : Nat) (rs : List Int) (ks : List (Int × Int)) (F : Int→Int) (p f hour : Int) : Prop where
 ba : b≤a
 an : a≤o.length
 ac : (rs ++ ks.map (·.2)).Perm (act o a b)
 tm : ∀ k∈ks,(k.2=oA o a→k.1=EA q (a + 1))∧(k.2=oB o b→k.1=EB q (b + 1))
 ge : ∀ k∈ks,hour≤k.1
 hr : hour=max (EA q a) (EB q b)
 rA : oA o a∈rs→hour=EA q a
 rB : oB o b∈rs→hour=max (EA q (b + 1)) (EB q b)
 FA : ∀ j < o.length,F (oA o j)=if j < a then -2 else if j=a then (if oA o j∈rs then 0 else -1) else 1
 FB : ∀ j < o.length,F (oB o j)=if j < b then -2 else if j=b∧b < a then (if oB o j∈rs then 0 else -1) else (if a≤j then 1 else 0) + (if b < j then 1 else 0)
 pf : p - f=ks.length
theorem mem_act {o : List Int}{a b : Nat}{x : Int}(h : x∈act o a b) : (x=oB o b∧b < a)∨(x=oA o a∧a < o.length):=by
 unfold act at h
 rcases Nh h with h | h
 ·split at h
  ·simp at h;exact .inl ⟨h,by assumption⟩
  ·cases h
 ·split at h
  ·simp at h;exact .inr ⟨h,by assumption⟩
  ·cases h
theorem CS.mem {o : List Int}{q : List (Int × Int)}{a b : Nat}{rs : List Int}{ks : List (Int × Int)}{F : Int→Int}{p f hour : Int}(S : CS o q a b rs ks F p f hour) {x : Int}(h : x∈rs) : (x=oB o b∧b < a)∨(x=oA o a∧a < o.length):=
 mem_act (S.ac.mem_iff.mp (List.mem_append_left _ h))
theorem CS.memK {o : List Int}{q : List (Int × Int)}{a b : Nat}{rs : List Int}{ks : List (Int × Int)}{F : Int→Int}{p f hour : Int}(S : CS o q a b rs ks F p f hour) {k : Int × Int}(h : k∈ks) : (k.2=oB o b∧b < a)∨(k.2=oA o a∧a < o.length):=
 mem_act (S.ac.mem_iff.mp (List.mem_append_right _ (List.mem_map_of_mem h)))
theorem CS.begin {o : List Int}{q : List (Int × Int)}{a b : Nat}{rs : List Int}{ks : List (Int × Int)}{F : Int→Int}{p f hour : Int}{w : Int→Int}(hn : o.Nodup) (hq : q.length=o.length) (S : CS o q a b rs ks F p f hour)
 (wA : ∀ j < o.length,w (oA o j)=(q.getD j (0,0)).1∧0≤(q.getD j (0,0)).1) (wB : ∀ j < o.length,w (oB o j)=(q.getD j (0,0)).2∧0≤(q.getD j (0,0)).2) :
 CS o q a b [] (ks ++ rs.map fun x=>(hour + w x,x)) (Mf F rs) (p + rs.length) f hour:=by
 have hba:=S.ba
 have han:=S.an
 refine⟨S.ba,S.an,?_,?_,?_,S.hr,by simp,by simp,?_,?_,?_⟩
 ·rw[List.nil_append,List.map_append,List.map_map]
  have : (rs.map ((fun x=>x.2) ∘ fun x=>(hour + w x,x)))=rs:=by simp[Function.comp_def]
  rw[this]
  exact List.perm_append_comm.trans S.ac
 ·intro k hk
  rcases Nh hk with hk | hk
  ·exact S.tm k hk
  ·obtain⟨x,hx,rfl⟩:=Ng hk
   refine⟨fun e=>?_,fun e=>?_⟩
   ·simp only at e ⊢
    subst e
    rcases S.mem hx with ⟨h1,_⟩ | ⟨_,h2⟩
    ·exact absurd h1 (AB o a b)
    ·rw[(wA a h2).1,S.rA hx,EA_succ (by exact q9 ‹_› ‹_›)]
   ·simp only at e ⊢
    subst e
    rcases S.mem hx with ⟨_,h2⟩ | ⟨h1,_⟩
    ·rw[(wB b (by exact r4 ‹_› ‹_›)).1,S.rB hx,EB]
    ·exact absurd h1.symm (AB o a b)
 ·intro k hk
  rcases Nh hk with hk | hk
  ·exact S.ge k hk
  ·obtain⟨x,hx,rfl⟩:=Ng hk
   simp only
   rcases S.mem hx with ⟨rfl,h2⟩ | ⟨rfl,h2⟩
   ·have:=wB b (by exact r4 ‹_› ‹_›);exact Int.le_add_of_nonneg_right (this.1 ▸ this.2)
   ·have:=wA a h2;exact Int.le_add_of_nonneg_right (this.1 ▸ this.2)
 ·intro j hj
  unfold Mf
  rw[S.FA j hj]
  by_cases hm : oA o j∈rs
  ·have hja : j=a:=by
    rcases S.mem hm with ⟨h1,_⟩ | ⟨h1,h2⟩
    ·exact absurd h1 (AB o j b)
    ·exact Classical.byContradiction fun hne=>AA hn hj h2 hne h1
   subst hja
   simp[hm]
  ·simp[hm]
 ·intro j hj
  unfold Mf
  rw[S.FB j hj]
  by_cases hm : oB o j∈rs
  ·have hja : j=b∧b < a:=by
    rcases S.mem hm with ⟨h1,h2⟩ | ⟨h1,h2⟩
    ·exact⟨Classical.byContradiction fun hne=>BB hn hj (by exact r4 ‹_› ‹_›) hne h1,h2⟩
    ·exact absurd h1.symm (AB o a j)
   obtain⟨rfl,h2⟩:=hja
   simp[hm,h2]
  ·simp[hm]
 ·have:=S.pf;simp;lia
theorem EA_mono {q : List (Int × Int)}(hp : ∀ x∈q,0≤x.1) {i : Nat}(hi : i≤q.length) : ∀ {j : Nat},j≤i→EA q j≤EA q i:=by
 induction i with
 | zero => intro j hj; obtain rfl : j = 0 := Nat.le_zero.mp hj
           exact Int.le_refl _
 | succ i ih =>
  intro j hj
  rcases Nat.lt_or_ge j (i + 1) with h | h
  ·have:=ih (by exact r7 ‹_›) (j:=j) (by exact Nat.le_of_lt_succ ‹_›)
   rw[EA_succ (by assumption)]
   have : 0≤(q.getD i (0,0)).1:=by
    rw[List.getD_eq_getElem?_getD,Nc (by assumption)]
    exact hp _ (List.getElem_mem _)
   exact Nb ‹_› (Int.le_add_of_nonneg_right this)
  ·obtain rfl : j=i + 1:=Nat.le_antisymm hj h
   exact Int.le_refl _
theorem ifc {p : Prop} [d : Decidable p] {α : Type}{a x y : α}(h : ¬p→x=y) : (if p then a else x)=if p then a else y:=by
 by_cases q : p
 ·exact (if_pos q).trans (if_pos q).symm
 ·exact (if_neg q).trans ((h q).trans (if_neg q).symm)
theorem ifA {a b j : Nat}(h0 : b≤a) : (if j=a then if b < a then 1 else 0 else if j < b then -2 else if j=b∧b < a then -1 else (if a≤j then 1 else 0) + if b < j then 1 else 0 : Int) =
 if j < b then -2 else if j=b∧b < a + 1 then if j=a∧b=a then 0 else -1 else (if a + 1≤j then 1 else 0) + if b < j then 1 else 0:=by
 rcases Nat.lt_trichotomy j a with h | rfl | h
 ·refine (if_neg (Nat.ne_of_lt h)).trans (ifc fun o_=>?_)
  by_cases h2 : j=b
  ·exact (if_pos ⟨h2,h2 ▸ h⟩).trans ((if_pos ⟨h2,Nat.lt_succ_of_le h0⟩).trans (if_neg (not_and_of_not_left _ (Nat.ne_of_lt h)))).symm
  ·exact (if_neg (not_and_of_not_left _ h2)).trans ((congrArg (· + _) ((if_neg (Nat.not_le_of_lt h)).trans (if_neg (Nat.not_le_of_lt (Nat.lt_succ_of_lt h))).symm)).trans (if_neg (not_and_of_not_left _ h2)).symm)
 ·refine (if_pos rfl).trans (Eq.symm ((if_neg (Nat.not_lt_of_le h0)).trans ?_))
  by_cases h2 : j=b
  ·subst h2;exact (if_pos ⟨rfl,Nat.lt_succ_self _⟩).trans ((if_pos ⟨rfl,rfl⟩).trans (if_neg (Nat.lt_irrefl _)).symm)
  ·exact (if_neg (not_and_of_not_left _ h2)).trans ((congrArg (· + _) (if_neg (Nat.not_succ_le_self j))).trans (Int.zero_add _))
 ·have hb:=S5 h0 h
  have n1:=Nat.ne_of_gt hb
  exact (if_neg (Nat.ne_of_gt h)).trans (ifc fun o_=>(if_neg (not_and_of_not_left _ n1)).trans ((congrArg (· + _) ((if_pos (Na h)).trans (if_pos (show a + 1≤j from h)).symm)).trans (if_neg (not_and_of_not_left _ n1)).symm))
theorem ifB {a b j : Nat}(h0 : b < a) : (if j=b + 1 then if a≤b + 1 then 1 else 0 else if j=b then -2 else if j < b then -2 else if j=b∧b < a then -1 else (if a≤j then 1 else 0) + if b < j then 1 else 0 : Int) =
 if j < b + 1 then -2 else if j=b + 1∧b + 1 < a then if j=b + 1∧b + 1 < a then 0 else -1 else (if a≤j then 1 else 0) + if b + 1 < j then 1 else 0:=by
 rcases Nat.lt_trichotomy j (b + 1) with h | rfl | h
 ·refine (if_neg (Nat.ne_of_lt h)).trans (Eq.trans ?_ (if_pos h).symm)
  by_cases h2 : j=b
  ·exact if_pos h2
  ·exact (if_neg h2).trans (if_pos (Nat.lt_of_le_of_ne (Nat.le_of_lt_succ h) h2))
 ·refine (if_pos rfl).trans (Eq.symm ((if_neg (Nat.lt_irrefl _)).trans ?_))
  by_cases h2 : b + 1 < a
  ·exact (if_pos ⟨rfl,h2⟩).trans ((if_pos ⟨rfl,h2⟩).trans (if_neg (Nat.not_le_of_lt h2)).symm)
  ·exact (if_neg (not_and_of_not_right _ h2)).trans ((congrArg (_ + ·) (if_neg (Nat.lt_irrefl _))).trans (Int.add_zero _))
 ·have hb:=Nat.lt_of_succ_lt h
  exact (if_neg (Nat.ne_of_gt h)).trans ((if_neg (Nat.ne_of_gt hb)).trans ((if_neg (Nat.lt_asymm hb)).trans ((if_neg (not_and_of_not_left _ (Nat.ne_of_gt hb))).trans ((congrArg (_ + ·) ((if_pos hb).trans (if_pos h).symm)).trans ((if_neg (Nat.lt_asymm h)).trans (if_neg (not_and_of_not_left _ (Nat.ne_of_gt h)))).symm))))
theorem CS.doneA {o : List Int}{q : List (Int × Int)}{a b : Nat}{ks ks' : List (Int × Int)}{F : Int→Int}{p f hour t : Int}{np : Int→Int}{sc : Int→List Int}(hn : o.Nodup) (G : GV o o.length np sc) (S : CS o q a b [] ks F p f hour)
 (ha : a < o.length) (hp : ((t,oA o a) :: ks').Perm ks) (hmin : ∀ k∈ks',t≤k.1) :
 CS o q (a + 1) b (dnL F [] (oA o a) (sc (oA o a))).2 ks' (dnL F [] (oA o a) (sc (oA o a))).1 p (f + 1) t:=by
 have hba:=S.ba
 have hm : (t,oA o a)∈ks:=hp.mem_iff.mp (.head _)
 have ht : t=EA q (a + 1):=(S.tm _ hm).1 rfl
 have hht:=S.ge _ hm
 simp only at hht
 have hB0 : F (oB o a)=1 + if b < a then 1 else 0:=by
  rw[S.FB a ha,if_neg (Nat.not_lt_of_le hba),if_neg (fun q=>Nat.ne_of_gt q.2 q.1),if_pos (Nat.le_refl _)]
 have hA1 : a + 1 < o.length→F (oA o (a + 1))=1:=fun h=>by rw[S.FA _ h,if_neg (Nat.not_succ_lt_self),if_neg (Nat.succ_ne_self a)]
 have e : dnL F [] (oA o a) (sc (oA o a))=(if a + 1 < o.length then up (up (up F (oA o a) (-2)) (oB o a) (if b < a then 1 else 0)) (oA o (a + 1)) 0 else up (up F (oA o a) (-2)) (oB o a) (if b < a then 1 else 0),
  (if b=a then [oB o a] else []) ++ if a + 1 < o.length then [oA o (a + 1)] else []):=by
  rw[G.scA a ha]
  unfold dnL
  have e1 : Jr (up F (oA o a) (-2),[]) (oB o a)=(up (up F (oA o a) (-2)) (oB o a) (if b < a then 1 else 0),if b=a then [oB o a] else []):=by
   have e0 : up F (oA o a) (-2) (oB o a)=1 + if b < a then 1 else 0:=by unfold up;rw[if_neg (AB o a a).symm,hB0]
   unfold Jr
   simp only[e0]
   by_cases hb : b < a
   ·rw[if_pos hb,if_neg (by decide),if_neg (by exact Nat.ne_of_lt ‹_›)];rfl
   ·rw[if_neg hb,if_pos (by exact rfl),if_pos (Nat.le_antisymm hba (Nat.le_of_not_lt hb))];rfl
  rw[List.foldl_cons,e1]
  by_cases h : a + 1 < o.length
  ·simp only[if_pos h,List.foldl_cons,List.foldl_nil]
   have e2 : up (up F (oA o a) (-2)) (oB o a) (if b < a then 1 else 0) (oA o (a + 1))=1:=by
    unfold up;rw[if_neg (AB o _ _),if_neg (AA hn h ha (Nat.succ_ne_self a)),hA1 h]
   unfold Jr
   simp only[e2]
   rfl
  ·simp only[if_neg h,List.foldl_nil,List.append_nil]
 rw[e]
 dsimp only
 have hk' : (ks'.map (·.2)).Perm (if b < a then [oB o b] else []):=by
  have h1:=hp.map (fun k=>k.2)
  have h2:=S.ac
  rw[List.nil_append] at h2
  have h3:=h1.trans h2
  rw[List.map_cons] at h3
  unfold act at h3
  rw[if_pos ha] at h3
  exact (h3.trans (List.perm_append_singleton _ _)).cons_inv
 have hB' : ∀ j < o.length,up (up F (oA o a) (-2)) (oB o a) (if b < a then 1 else 0) (oB o j)=if j=a then (if b < a then 1 else 0) else F (oB o j):=fun j hj=>by
  unfold up
  by_cases hja : j=a
  ·subst hja;simp
  ·rw[if_neg (BB hn hj ha hja),if_neg (AB o a j).symm,if_neg hja]
 have hA' : ∀ j < o.length,up (up F (oA o a) (-2)) (oB o a) (if b < a then 1 else 0) (oA o j)=if j=a then -2 else F (oA o j):=fun j hj=>by
  unfold up
  by_cases hja : j=a
  ·subst hja;rw[if_neg (AB o j j)];simp
  ·rw[if_neg (AB o j a),if_neg (AA hn hj ha hja),if_neg hja]
 have mrsA : ∀ j < o.length,oA o j∈((if b=a then [oB o a] else []) ++ if a + 1 < o.length then [oA o (a + 1)] else []) ↔ j=a + 1:=fun j hj=>by
  rw[List.mem_append]
  constructor
  ·rintro (h | h)
   ·split at h
    ·simp at h;exact absurd h (AB o j a)
    ·cases h
   ·split at h
    ·simp at h;exact Classical.byContradiction fun hne=>AA hn hj (by assumption) hne h
    ·cases h
  ·rintro rfl
   rw[if_pos hj];exact .inr (.head _)
 have mrsB : ∀ j < o.length,oB o j∈((if b=a then [oB o a] else []) ++ if a + 1 < o.length then [oA o (a + 1)] else []) ↔ (j=a∧b=a):=fun j hj=>by
  rw[List.mem_append]
  constructor
  ·rintro (h | h)
   ·split at h
    ·simp at h;exact⟨Classical.byContradiction fun hne=>BB hn hj ha hne h,by assumption⟩
    ·cases h
   ·split at h
    ·simp at h;exact absurd h.symm (AB o _ j)
    ·cases h
  ·rintro⟨rfl,h⟩
   rw[if_pos h];exact .inl (.head _)
 refine⟨Nat.le_succ_of_le hba,ha,?_,?_,hmin,?_,?_,?_,?_,?_,?_⟩
 ·refine (List.Perm.append_left _ hk').trans ?_
  unfold act
  rw[if_pos (show b < a + 1 by exact Nat.lt_succ_of_le ‹_›)]
  by_cases hb : b < a
  ·rw[if_pos hb,if_neg (by exact Nat.ne_of_lt ‹_›),List.nil_append]
   exact List.perm_append_comm
  ·obtain rfl : b=a:=Nat.le_antisymm hba (Nat.le_of_not_lt hb)
   rw[if_neg hb,if_pos rfl,List.append_nil]
 ·intro k hk
  have hk2 : k∈ks:=hp.mem_iff.mp (.tail _ hk)
  have:=hk'.mem_iff.mp (List.mem_map_of_mem hk)
  refine⟨fun h=>?_,(S.tm k hk2).2⟩
  split at this
  ·simp at this;rw[this] at h;exact absurd h.symm (AB o _ _)
  ·cases this
 ·exact yv ht hht S.hr
 ·intro o_;exact ht
 ·intro h
  have hb:=(mrsB b (by exact r5 ‹_› ‹_›)).mp h
  obtain⟨rfl,o_⟩:=hb
  exact yv ht hht S.hr
 ·intro j hj
  rw[mrsA j hj |> fun h=>show (if oA o j∈_ then (0 : Int) else -1)=if j=a + 1 then 0 else -1 by simp only[h]]
  have hF:=S.FA j hj
  by_cases h : a + 1 < o.length
  ·rw[if_pos h]
   by_cases hj1 : j=a + 1
   ·subst hj1;simp[up]
   ·unfold up at hA' ⊢
    rw[if_neg (AA hn hj h hj1),hA' j hj]
    by_cases hja : j=a
    ·subst hja;simp
    ·rw[if_neg hja,hF]
     by_cases h2 : j < a
     ·rw[if_pos h2,if_pos (by exact Nat.lt_succ_of_lt ‹_›)]
     ·rw[if_neg h2,if_neg hja,if_neg (fun x=>(Nat.lt_succ_iff_lt_or_eq.mp x).elim h2 hja),if_neg hj1]
  ·rw[if_neg h,hA' j hj]
   by_cases hja : j=a
   ·subst hja;simp
   ·rw[if_neg hja,hF]
    have z:=S6 hj (Nat.le_of_not_lt h)
    rw[if_pos (Nat.lt_of_le_of_ne (Nat.le_of_lt_succ z) hja),if_pos z]
 ·intro j hj
  rw[mrsB j hj |> fun h=>show (if oB o j∈_ then (0 : Int) else -1)=if (j=a∧b=a) then 0 else -1 by simp only[h]]
  have hF:=S.FB j hj
  have key : (if a + 1 < o.length then up (up (up F (oA o a) (-2)) (oB o a) (if b < a then 1 else 0)) (oA o (a + 1)) 0 else up (up F (oA o a) (-2)) (oB o a) (if b < a then 1 else 0)) (oB o j)=if j=a then (if b < a then 1 else 0) else F (oB o j):=by
   by_cases h : a + 1 < o.length
   ·rw[if_pos h,← hB' j hj]
    conv=>lhs;unfold up
    rw[if_neg (AB o _ j).symm]
    rfl
   ·rw[if_neg h];exact hB' j hj
  rw[key,hF]
  simp only[List.not_mem_nil,if_false]
  exact ifA hba
 ·have h1:=S.pf
  have h2:=hp.length_eq
  exact yw h1 h2
theorem CS.doneB {o : List Int}{q : List (Int × Int)}{a b : Nat}{ks ks' : List (Int × Int)}{F : Int→Int}{p f hour t : Int}{np : Int→Int}{sc : Int→List Int}(hn : o.Nodup) (hq : q.length=o.length) (hpos : ∀ x∈q,0≤x.1) (G : GV o o.length np sc) (S : CS o q a b [] ks F p f hour)
 (hb : b < a) (hp : ((t,oB o b) :: ks').Perm ks) (hmin : ∀ k∈ks',t≤k.1) :
 CS o q a (b + 1) (dnL F [] (oB o b) (sc (oB o b))).2 ks' (dnL F [] (oB o b) (sc (oB o b))).1 p (f + 1) t:=by
 have han:=S.an
 have hbl : b < o.length:=by exact r4 ‹_› ‹_›
 have hm : (t,oB o b)∈ks:=hp.mem_iff.mp (.head _)
 have ht : t=EB q (b + 1):=(S.tm _ hm).2 rfl
 have hht:=S.ge _ hm
 have hhr:=S.hr
 simp only at hht
 have hB1 : b + 1 < o.length→F (oB o (b + 1))=(if a≤b + 1 then 1 else 0) + 1:=fun h=>by
  rw[S.FB _ h,if_neg (Nat.not_succ_lt_self),if_neg (fun q=>Nat.succ_ne_self b q.1),if_pos (show b < b + 1 by exact Nat.lt_succ_self _)]
 have e : dnL F [] (oB o b) (sc (oB o b))=(if b + 1 < o.length then up (up F (oB o b) (-2)) (oB o (b + 1)) (if a≤b + 1 then 1 else 0) else up F (oB o b) (-2),if b + 1 < a then [oB o (b + 1)] else []):=by
  rw[G.scB b hbl]
  unfold dnL
  by_cases h : b + 1 < o.length
  ·simp only[if_pos h,List.foldl_cons,List.foldl_nil]
   have e2 : up F (oB o b) (-2) (oB o (b + 1))=(if a≤b + 1 then 1 else 0) + 1:=by
    unfold up;rw[if_neg (BB hn h hbl (Nat.succ_ne_self b)),hB1 h]
   unfold Jr
   simp only[e2]
   by_cases h2 : a≤b + 1
   ·rw[if_pos h2,if_neg (by decide),if_neg (Nat.not_lt_of_le h2)];rfl
   ·rw[if_neg h2,if_pos (by exact rfl),if_pos (by exact r9 ‹_›)];rfl
  ·simp only[if_neg h,List.foldl_nil]
   rw[if_neg (fun x=>h (S6 x han))]
 rw[e]
 dsimp only
 have hk' : (ks'.map (·.2)).Perm (if a < o.length then [oA o a] else []):=by
  have h1:=hp.map (fun k=>k.2)
  have h2:=S.ac
  rw[List.nil_append] at h2
  have h3:=h1.trans h2
  rw[List.map_cons] at h3
  unfold act at h3
  rw[if_pos hb] at h3
  exact h3.cons_inv
 have hA' : ∀ j < o.length,(if b + 1 < o.length then up (up F (oB o b) (-2)) (oB o (b + 1)) (if a≤b + 1 then 1 else 0) else up F (oB o b) (-2)) (oA o j)=F (oA o j):=fun j hj=>by
  unfold up
  split
  ·dsimp only;rw[if_neg (AB o _ _),if_neg (AB o _ _)]
  ·dsimp only;rw[if_neg (AB o _ _)]
 have hB' : ∀ j < o.length,(if b + 1 < o.length then up (up F (oB o b) (-2)) (oB o (b + 1)) (if a≤b + 1 then 1 else 0) else up F (oB o b) (-2)) (oB o j)=if j=b + 1 then (if a≤b + 1 then 1 else 0) else if j=b then -2 else F (oB o j):=fun j hj=>by
  unfold up
  by_cases h1 : j=b + 1
  ·subst h1
   rw[if_pos hj,if_pos rfl,if_pos rfl]
  ·rw[if_neg h1]
   split
   ·dsimp only
    rw[if_neg (BB hn hj (by assumption) h1)]
    by_cases h2 : j=b
    ·subst h2;simp
    ·rw[if_neg (BB hn hj hbl h2),if_neg h2]
   ·dsimp only
    by_cases h2 : j=b
    ·subst h2;simp
    ·rw[if_neg (BB hn hj hbl h2),if_neg h2]
 have mrsA : ∀ j,oA o j∈(if b + 1 < a then [oB o (b + 1)] else []) ↔ False:=fun j=>by
  constructor
  ·intro h
   split at h
   ·simp at h;exact absurd h (AB o _ _)
   ·cases h
  ·exact False.elim
 have mrsB : ∀ j < o.length,oB o j∈(if b + 1 < a then [oB o (b + 1)] else []) ↔ (j=b + 1∧b + 1 < a):=fun j hj=>by
  constructor
  ·intro h
   split at h
   ·rename_i h2
    simp at h;exact⟨Classical.byContradiction fun hne=>BB hn hj (by exact r4 ‹_› ‹_›) hne h,h2⟩
   ·cases h
  ·rintro⟨rfl,h⟩
   rw[if_pos h];exact .head _
 refine⟨by assumption,han,?_,?_,hmin,?_,?_,?_,?_,?_,?_⟩
 ·exact List.Perm.append_left _ hk'
 ·intro k hk
  have hk2 : k∈ks:=hp.mem_iff.mp (.tail _ hk)
  have:=hk'.mem_iff.mp (List.mem_map_of_mem hk)
  refine⟨(S.tm k hk2).1,fun h=>?_⟩
  split at this
  ·simp at this;rw[this] at h;exact absurd h (AB o _ _)
  ·cases this
 ·exact yx ht hht hhr (Int.le_refl _)
 ·intro h;exact ((mrsA a).mp h).elim
 ·intro h
  rcases Nat.lt_or_ge (b + 1) o.length with hb1 | hb1
  ·obtain⟨o_,h2⟩:=(mrsB (b + 1) hb1).mp h
   have:=EA_mono hpos (i:=a) (by exact s1 ‹_› ‹_›) (j:=b + 1 + 1) (by assumption)
   exact yx ht hht hhr this
  ·rw[if_neg (Nat.not_lt_of_le (S7 han hb1))] at h;cases h
 ·intro j hj
  rw[show (if oA o j∈(if b + 1 < a then [oB o (b + 1)] else []) then (0 : Int) else -1)=-1 by simp only[mrsA j,if_false]]
  rw[hA' j hj,S.FA j hj]
  simp only[List.not_mem_nil,if_false]
 ·intro j hj
  rw[show (if oB o j∈(if b + 1 < a then [oB o (b + 1)] else []) then (0 : Int) else -1)=if (j=b + 1∧b + 1 < a) then 0 else -1 by simp only[mrsB j hj]]
  rw[hB' j hj,S.FB j hj]
  simp only[List.not_mem_nil,if_false]
  exact ifB hb
 ·have h1:=S.pf
  have h2:=hp.length_eq
  exact yw h1 h2
theorem CS.over {o : List Int}{q : List (Int × Int)}{a b : Nat}{F : Int→Int}{p f hour : Int}(S : CS o q a b [] [] F p f hour) : a=o.length∧b=o.length:=by
 have h:=S.ac
 have hba:=S.ba
 have han:=S.an
 rw[List.map_nil,List.append_nil] at h
 have h2:=h.length_eq
 unfold act at h2
 simp only[List.length_nil,List.length_append] at h2
 split at h2 <;> split at h2 <;> simp at h2
 have e:=Nat.le_antisymm han (Nat.le_of_not_lt ‹¬a < _›)
 exact⟨e,(Nat.le_antisymm hba (Nat.le_of_not_lt ‹¬b < _›)).trans e⟩
theorem CS.out {o : List Int}{q : List (Int × Int)}{a b : Nat}{ks : List (Int × Int)}{F : Int→Int}{p f hour : Int}(S : CS o q a b [] ks F p f hour) {k : Int × Int}(h : k∈ks) : F k.2=-1:=by
 rcases S.memK h with ⟨h1,h2⟩ | ⟨h1,h2⟩
 ·have:=S.ba;have:=S.an
  rw[h1,S.FB b (by exact r4 ‹_› ‹_›),if_neg (Nat.lt_irrefl _),if_pos ⟨rfl,h2⟩];simp
 ·rw[h1,S.FA a h2,if_neg (Nat.lt_irrefl _),if_pos rfl];simp
theorem EB_ge {q : List (Int × Int)}(hpos : ∀ x∈q,0≤x.2) : ∀ {i : Nat},0 < i→i≤q.length→EA q i≤EB q i
 | 0,h,_=>by exact Int.le_refl _
 | i + 1,_,h=>by
  have : 0≤(q.getD i (0,0)).2:=by
   rw[List.getD_eq_getElem?_getD,Nc (by assumption)]
   exact hpos _ (List.getElem_mem _)
  rw[EB];exact Nb (Int.le_max_left ..) (Int.le_add_of_nonneg_right this)
theorem CS.start {o : List Int}{q : List (Int × Int)}{np : Int→Int}{sc : Int→List Int}(hn : o.Nodup) (h0 : 0 < o.length) (G : GV o o.length np sc) : CS o q 0 0 [oA o 0] [] np 0 0 0:=by
 refine⟨Nat.le_refl _,Nat.zero_le _,?_,fun k hk=>(nomatch hk),fun k hk=>(nomatch hk),by simp[EA,EB],fun o_=>by simp[EA],fun h=>?_,fun j hj=>?_,fun j hj=>?_,by simp⟩
 ·unfold act;rw[if_neg (by decide),if_pos h0];simp
 ·simp at h;exact absurd h.symm (AB o _ _)
 ·rw[G.npA j hj]
  by_cases h : j=0
  ·subst h;simp
  ·rw[if_neg h,if_neg (Nat.not_lt_zero _),if_neg h]
 ·rw[G.npB j hj]
  by_cases h : j=0
  ·subst h;simp
  ·rw[if_neg h,if_neg (Nat.not_lt_zero _),if_neg (fun q=>h q.1),if_pos (by exact Nat.zero_le _),if_pos (by exact Nat.pos_of_ne_zero ‹_›)];rfl
theorem idx_inj {α : Type}{l : List α}(hn : l.Nodup) {i j : Nat}{a : α}(h1 : l[i]?=some a) (h2 : l[j]?=some a) : i=j:=
 (List.getElem?_inj (Zn h1) hn).mp (h1.trans h2.symm)
theorem N_sub : ∀ nd : List NR,(nd.map (·.N)).Sublist (nA nd)
 | []=>.slnil
 | r :: nd=>by
  simp only[List.map_cons,nA,List.flatMap_cons,List.cons_append,List.nil_append]
  exact .cons _ (.cons₂ _ (.cons _ (N_sub nd)))
theorem ts_freeze {cl dx x D : Addr}{t1 t2 : Tok}{cv : Option Value}{nd : List NR}{F : Int→Int}(e0 : as.length=os.length) (hD : (D == sysModules)=false) (hn : (nd.map (·.node)).Nodup) (hF : ∀ r∈nd,F r.node=r.np) (H : Led c env g ns vs (gA4 as cl dx x D nd) (gO4 os cv dx D t1 t2 nd) h) :
 ∃ g' : Bas,g.hp.StaysIn g'.hp∧g'.fo=g.fo∧TF g'.hp x dx D nd∧Led c env g' ns vs (as ++ [cl] ++ [dx] ++ nd.map (·.N)) (os ++ [.ce cv] ++ [atS (tsA D .none (.int 0 t1) (.int 0 t2))] ++ nd.map (nS F)) h:=by
 have e4 : (as ++ [cl,dx,x,D]).length=(os ++ [Sp.ce cv,atS (tsA D .none (.int 0 t1) (.int 0 t2)),Sp.ob (Z9 183 dx),dI (nM nd)]).length:=by simp[e0]
 have nAt : ∀ {m j : Nat}{a : Addr},(nA nd)[j]?=some a→(gA4 as cl dx x D nd)[as.length + 4 + j]?=some a:=fun h=>Zw (by simp) h
 have nOt : ∀ {j : Nat}{a : Sp},(nO nd)[j]?=some a→(gO4 os cv dx D t1 t2 nd)[as.length + 4 + j]?=some a:=fun h=>Zw (by simp[e0]) h
 have a4 : ∀ {j : Nat}{a : Addr},[cl,dx,x,D][j]?=some a→(gA4 as cl dx x D nd)[as.length + j]?=some a:=fun h=>ap (Zw rfl h) _
 have o4 : ∀ {j : Nat}{a : Sp},[Sp.ce cv,atS (tsA D .none (.int 0 t1) (.int 0 t2)),Sp.ob (Z9 183 dx),dI (nM nd)][j]?=some a→(gO4 os cv dx D t1 t2 nd)[as.length + j]?=some a:=fun h=>ap (Zw e0 h) _
 have hsub : (as ++ [cl] ++ [dx] ++ nd.map (·.N)).Sublist (gA4 as cl dx x D nd):=by
  refine List.Sublist.append ?_ (N_sub nd)
  rw[List.append_assoc]
  exact List.Sublist.append (List.Sublist.refl _) (.cons₂ _ (.cons₂ _ (.cons _ (.cons _ .slnil))))
 have mem : ∀ a∈as ++ [cl] ++ [dx] ++ nd.map (·.N),∃ j : Nat,(gA4 as cl dx x D nd)[j]?=some a∧(j < as.length + 2∨∃ m,j=as.length + 4 + (3 * m + 1)):=fun a ha=>by
  rcases Nh ha with ha | ha
  ·rcases Nh ha with ha | ha
   ·rcases Nh ha with ha | ha
    ·obtain⟨j,hj⟩:=List.mem_iff_getElem?.mp ha
     exact⟨j,ap (ap hj _) _,.inl (Nat.lt_add_right 2 (Zn hj))⟩
    ·simp at ha;subst ha;exact⟨as.length + 0,a4 rfl,.inl (by lia)⟩
   ·simp at ha;subst ha;exact⟨as.length + 1,a4 rfl,.inl (by exact Nat.lt_succ_self _)⟩
  ·obtain⟨r,hr,rfl⟩:=Ng ha
   obtain⟨m,hm⟩:=List.mem_iff_getElem?.mp hr
   exact⟨_,nAt (m:=m) (nA_get hm).2.1,.inr ⟨m,rfl⟩⟩
 have not_mem : ∀ {j : Nat}{a : Addr},(gA4 as cl dx x D nd)[j]?=some a→as.length + 2≤j→(∀ m,j≠as.length + 4 + (3 * m + 1))→a ∉ as ++ [cl] ++ [dx] ++ nd.map (·.N):=fun {j a} hj h1 h2 q=>by
  obtain⟨j',hj',q⟩:=mem a q
  have:=idx_inj H.nd hj hj'
  subst this
  rcases q with q | ⟨m,q⟩
  ·exact Nat.not_lt_of_le h1 q
  ·exact h2 m q
 obtain⟨g',k1,k2,H',fz⟩:=H.pick (as':=as ++ [cl] ++ [dx] ++ nd.map (·.N)) (os':=os ++ [.ce cv] ++ [atS (tsA D .none (.int 0 t1) (.int 0 t2))] ++ nd.map (nS F)) (by simp[e0]) (hsub.nodup H.nd) (fun i a o h1 h2=>by
  rcases Nat.lt_or_ge i (as.length + 2) with hi | hi
  ·rw[List.getElem?_append_left (by simp;assumption)] at h1
   rw[List.getElem?_append_left (by simp;exact e0 ▸ hi)] at h2
   rw[List.append_assoc] at h1 h2
   refine⟨i,o,?_,?_,fun o_ q=>q⟩
   ·rcases Nat.lt_or_ge i as.length with h3 | h3
    ·rw[List.getElem?_append_left h3] at h1;exact ap (ap h1 _) _
    ·obtain⟨j,rfl⟩ : ∃ j,i=as.length + j:=⟨i - as.length,xc h3⟩
     rw[List.getElem?_append_right (by assumption),Nat.add_sub_cancel_left] at h1
     exact a4 (ap h1 [x,D])
   ·rcases Nat.lt_or_ge i os.length with h3 | h3
    ·rw[List.getElem?_append_left h3] at h2;exact ap (ap h2 _) _
    ·obtain⟨j,rfl⟩ : ∃ j,i=as.length + j:=⟨i - as.length,xc (e0 ▸ h3)⟩
     rw[e0,List.getElem?_append_right (by with_reducible exact Nat.le_add_right _ _),Nat.add_sub_cancel_left] at h2
     exact o4 (ap h2 [Sp.ob (Z9 183 dx),dI (nM nd)])
  ·obtain⟨m,rfl⟩ : ∃ m,i=as.length + 2 + m:=⟨i - (as.length + 2),xc hi⟩
   rw[List.getElem?_append_right (by simp <;> omega)] at h1
   rw[List.getElem?_append_right (by simp;exact e0 ▸ Nat.le_add_right ..)] at h2
   rw[show as.length + 2 + m - (as ++ [cl] ++ [dx]).length=m by simp <;> omega] at h1
   rw[show as.length + 2 + m - (os ++ [Sp.ce cv] ++ [atS (tsA D .none (.int 0 t1) (.int 0 t2))]).length=m by simp;exact xd e0 2 m] at h2
   rw[List.getElem?_map,Option.map_eq_some_iff] at h1 h2
   obtain⟨r,hr,rfl⟩:=h1
   obtain⟨r',hr',rfl⟩:=h2
   rw[hr] at hr';cases hr'
   refine⟨_,_,nAt (m:=m) (nA_get hr).2.1,nOt (nO_get hr).2.1,fun ob q=>?_⟩
   have hq : ob=_:=q
   exact⟨r.u,by rw[hq,hF r (Nd hr)]⟩)
 refine⟨g',k1,k2,⟨hD,?_,?_,fun r hr=>?_,hn⟩,H'⟩
 ·exact fz _ _ _ (a4 (j:=2) rfl) (o4 (j:=2) rfl) (not_mem (a4 (j:=2) rfl) (by exact Nat.lt_succ_self _) (fun m=>by lia))
 ·exact fz _ _ _ (a4 (j:=3) rfl) (o4 (j:=3) rfl) (not_mem (a4 (j:=3) rfl) (by lia) (fun m=>by lia))
 ·obtain⟨m,hm⟩:=List.mem_iff_getElem?.mp hr
  obtain⟨b1,b2,b3⟩:=nA_get hm
  obtain⟨d1,d2,d3⟩:=nO_get hm
  exact⟨fz _ _ _ (nAt (m:=m) b1) (nOt d1) (not_mem (nAt (m:=m) b1) (by lia) (fun m'=>by lia)),fz _ _ _ (nAt (m:=m) b3) (nOt d3) (not_mem (nAt (m:=m) b3) (by lia) (fun m'=>by lia))⟩
theorem w_isT {e : Expr}{Q : Bool→Heap→Prop}(x : W c A (eval e env) (fun v h₁=>W c A (truthy v) Q X h₁) X h) (he : autoParam (isTrue e env (eval e env)=(do let v ← eval e env;standAt e.pos;holding [v] (truthy v))) zR) : W c A (isTrue e env (eval e env)) Q X h:=fun kk =>
 wpAny_isTrue_value (wpAny_mono (x kk) (fun v s1 q=>Zy q.2 q.1) fun o_ o_ q=>q) he
theorem active_w {x dxS D R : Addr}{nd : List NR}{p f : Int}{rs : List Int}{F : Int→Int}{as0 : List Addr}{os0 : List Sp}(hA : Rm A 3) (Z : TF g.hp x dxS D nd) (e0 : as0.length=os0.length) (hz : rs.length < 900)
 (H : Led c env g ns vs (as0 ++ tA dxS R nd) (os0 ++ tO (tsS D R p f) (liI rs) F nd) h) :
 W c A (call (.ref 152) [.ref x]) (fun v h'=>v=.bool (decide (f < p) || !rs.isEmpty)∧Led c env g ns vs (as0 ++ tA dxS R nd) (os0 ++ tO (tsS D R p f) (liI rs) F nd) h') noX h:=by
 refine Zl ?_
 intro Q'
 obtain⟨t1,t2,H⟩:=H.openT tA0 (tO0 e0)
 rw[tS0 e0] at H
 obtain⟨l,pl,H⟩:=H.openI tA1 (tO1 e0)
 rw[tS1 e0] at H
 have hl : l.length=rs.length:=pl.length.symm
 refine Zh (active_ok hA H (.fz Z.I) (.ld _ tA0 (tO0 e0)) Jw look_np look_nf (.ld _ tA1 (tO1 e0)) (by exact q5 ‹_› ‹_› (by decide))) ?_ fun o_ o_ q=>q
 rintro v h' ⟨rfl,H'⟩
 have he : l.isEmpty=rs.isEmpty:=by cases pl <;> rfl
 refine⟨by rw[he],?_⟩
 have H1:=H'.closeT tA0 (tO0 e0)
 rw[tS0 e0] at H1
 have H2:=H1.closeI tA1 (tO1 e0) pl
 rw[tS1 e0] at H2
 exact H2
noncomputable def rkO (o : List Int) (x : Int) : Nat:=2 * (o.idxOf (x / 2)) + (x % 2).toNat
theorem idx_o {o : List Int}(hn : o.Nodup) {j : Nat}(hj : j < o.length) : o.idxOf (o.getD j 0)=j:=by
 rw[List.getD_eq_getElem?_getD,Nc hj,Option.getD_some]
 exact hn.idxOf_getElem j hj
theorem rkA {o : List Int}(hn : o.Nodup) {j : Nat}(hj : j < o.length) : rkO o (oA o j)=2 * j:=by
 unfold rkO oA
 rw[(xa _).1,(xa _).2,idx_o hn hj];rfl
theorem rkB {o : List Int}(hn : o.Nodup) {j : Nat}(hj : j < o.length) : rkO o (oB o j)=2 * j + 1:=by
 unfold rkO oB
 rw[(xb _).1,(xb _).2,idx_o hn hj];rfl
theorem NN_filter {o : List Int}{np : Int→Int}{sc : Int→List Int}(G : GV o o.length np sc) (k : Nat) (hk : k≤o.length) : (NN o k).filter (fun x=>np x == 0)=if k=0 then [] else [oA o 0]:=by
 induction k with
 | zero=>rfl
 | succ k ih =>
  rw[NN,List.filter_append,ih (Nat.le_of_succ_le hk)]
  simp only[List.filter_cons,List.filter_nil,G.npA k hk,G.npB k hk]
  by_cases h : k=0
  ·subst h;simp
  ·simp[h]
theorem NN_len (o : List Int) : ∀ k,(NN o k).length=2 * k
 | 0=>rfl
 | k + 1=>by rw[NN,List.length_append,NN_len o k];rfl
noncomputable def wN (ps : List (Int × Int)) (x : Int) : Int:=if x % 2=0 then (ps.getD (x / 2).toNat (0,0)).1 else (ps.getD (x / 2).toNat (0,0)).2
noncomputable def oq (ps : List (Int × Int)) (o : List Int) : List (Int × Int):=o.map fun i=>ps.getD i.toNat (0,0)
theorem oq_get (ps : List (Int × Int)) (o : List Int) {j : Nat}(hj : j < o.length) : (oq ps o).getD j (0,0)=ps.getD (o.getD j 0).toNat (0,0):=by
 unfold oq
 rw[List.getD_eq_getElem?_getD,List.getElem?_map,List.getD_eq_getElem?_getD,Nc hj]
 simp[Nc hj]
theorem wNA (ps : List (Int × Int)) (o : List Int) {j : Nat}(hj : j < o.length) : wN ps (oA o j)=((oq ps o).getD j (0,0)).1:=by
 rw[oq_get ps o hj];unfold wN oA
 rw[if_pos (xa _).2,(xa _).1]
theorem wNB (ps : List (Int × Int)) (o : List Int) {j : Nat}(hj : j < o.length) : wN ps (oB o j)=((oq ps o).getD j (0,0)).2:=by
 rw[oq_get ps o hj];unfold wN oB
 rw[if_neg (fun q=>absurd ((xb _).2.symm.trans q) (by decide)),(xb _).1]
theorem un_le (nd : List NR) (h : ∀ r∈nd,r.sc.length≤2) : un (fun r=>r.sc.length + 2) (fun o_=>false) nd≤4 * nd.length:=by
 unfold un;rw[List.filter_eq_self.mpr (by simp)]
 induction nd with
 | nil=>simp
 | cons r nd ih =>
  have e:=ih fun r hr=>h r (.tail _ hr)
  have:=h r (.head _)
  simp only[List.map_cons,List.sum_cons,List.length_cons];exact S7 (Nat.add_le_add (Nat.add_le_add_right this 2) e) (S9 (Nat.add_comm ..))
theorem lex_le {a b : Int × Int}(h : le KLt a b) : a.1≤b.1:=by
 unfold le KLt lt2 at h
 exact Int.not_lt.mp (of_decide_eq_false (Bool.or_eq_false_iff.mp h).1)
theorem ev_partN {e1 e2 e3 : Expr}{p p' : Pos}{i j : Nat}{P : Addr}{pvs : List Value}{ps : List (Int × Int)}{q : Int × Int}{w : Int}(x : EV c A env e1 g ns vs as os (·=.ref P)) (y : EV c A env e2 g ns vs as os (isI i)) (z : EV c A env e3 g ns vs as os (isI j)) (hP : At g.hp P (.li pvs)) (hps : Paired (Zx g.hp) pvs ps) (hq : ps[i]?=some q) (hz : pvs.length < 2 ^ 63)
 (hw : (j=0∧w=q.1)∨(j=1∧w=q.2))
 (hs : autoParam (∀ t,subscripted e2 false (.ref P) (.int i t)=operate [.ref P,.int i t] (getItem (.ref P) (.int i t))) zV)
 (hs2 : ∀ a t,subscripted e3 false (.ref a) (.int j t)=operate [.ref a,.int j t] (getItem (.ref a) (.int j t)):=by intro _ _;with_unfolding_all rfl) : EV c A env (.Subscript (.Subscript e1 e2 p) e3 p') g ns vs as os (isI w):=by
 obtain⟨pv,e1,⟨pa,ta,tb,rfl,zp⟩⟩:=pget hps hq
 rcases hw with ⟨rfl,rfl⟩ | ⟨rfl,rfl⟩
 ·exact (Mh (Yc x y (.fz hP) (by with_reducible exact Int.natCast_nonneg _) hz (by simpa using e1) hs) z (.fz zp) (by decide) (by simp) (by rfl) (hs2 _)).mono fun v e=>⟨_,e⟩
 ·exact (Mh (Yc x y (.fz hP) (by with_reducible exact Int.natCast_nonneg _) hz (by simpa using e1) hs) z (.fz zp) (by decide) (by simp) (by rfl) (hs2 _)).mono fun v e=>⟨_,e⟩
theorem clk_run {L O P x dx D : Addr}{t1 t2 : Tok}{kv cv : Option Value}{ord : List Int}{ps : List (Int × Int)}{pvs : List Value}{nd : List NR}(hA : Rm A 12) (hh : A.handled=none) (FA : FR A ((callEnvC Ut L 904).locals :: g.fs))
 (H : Led c (callEnvC Ut L 904) g (V5 ++ Mn) [some (.ref O),some (.ref P),some (.ref x),kv,none,none,none] (gA4 as (L + 1) dx x D nd) (gO4 os cv dx D t1 t2 nd) h)
 (e0 : as.length=os.length) (hD : (D == sysModules)=false) (hv : nd.map NR.v=VV ord ord.length) (hn : (nd.map (·.node)).Nodup) (ho : ord.Nodup) (h0 : 0 < ord.length) (hz : ord.length < 20)
 (zP : At g.hp P (.li pvs)) (hps : Paired (Zx g.hp) pvs ps) (hin : ∀ i∈ord,0≤i∧i.toNat < ps.length) (hpos : ∀ p∈ps,0≤p.1∧0≤p.2) (hpl : ps.length < 1000) :
 W c A (execs ((fnB (st 36)).drop 2) (callEnvC Ut L 904)) (fun fl h'=>isI (EB (oq ps ord) ord.length) (Js fl)∧∃ (g' : Bas) (vs' : List (Option Value)),g.hp.StaysIn g'.hp∧g'.fo=g.fo∧Led c (callEnvC Ut L 904) g' (V5 ++ Mn) vs' as os h') noX h:=by
 refine Zl ?_
 intro Q'
 obtain⟨np,sc,eV,G⟩:=VV_tri ho ord.length (Nat.le_refl _)
 have hv' : nd.map NR.v=tri (NN ord ord.length) np sc:=hv.trans eV
 have hnp : ∀ r∈nd,np r.node=r.np∧sc r.node=r.sc.map (·.1)∧r.node∈NN ord ord.length:=fun r hr=>by
  have : r.v∈tri (NN ord ord.length) np sc:=hv' ▸ List.mem_map_of_mem hr
  obtain⟨n,hn,e⟩:=Ng this
  simp only[NR.v,Prod.mk.injEq] at e
  obtain⟨rfl,e2,e3⟩:=e
  exact⟨e2,e3,hn⟩
 have hnodes : nd.map (·.node)=NN ord ord.length:=by rw[St hv',Mz]
 have hndl : nd.length=2 * ord.length:=by have:=congrArg List.length hnodes;rw[NN_len] at this;simpa using this
 have hscl : ∀ r∈nd,r.sc.length≤2:=fun r hr=>by
  obtain⟨o_,e2,e3⟩:=hnp r hr
  have e4:=congrArg List.length e2
  rw[List.length_map] at e4
  rw[← e4]
  obtain⟨j,hj,h | h⟩:=Vz.mp e3
  ·rw[h,G.scA j hj];split <;> simp
  ·rw[h,G.scB j hj];split <;> simp
 have scmem : ∀ r∈nd,∀ k∈r.sc,k.1∈nd.map (·.node)∧rkO ord r.node < rkO ord k.1:=fun r hr k hk=>by
  obtain⟨o_,e2,e3⟩:=hnp r hr
  have hkm : k.1∈sc r.node:=by rw[e2];exact List.mem_map_of_mem hk
  rw[hnodes,Vz]
  obtain⟨j,hj,h | h⟩:=Vz.mp e3
  ·rw[h] at hkm ⊢
   rw[G.scA j hj] at hkm
   rcases List.mem_cons.mp hkm with e | hkm
   ·rw[e,rkA ho hj,rkB ho hj];exact⟨⟨j,hj,.inr rfl⟩,by exact Nat.lt_succ_self _⟩
   ·split at hkm
    ·simp at hkm
     rw[hkm,rkA ho hj,rkA ho (by assumption)];exact⟨⟨j + 1,by assumption,.inl rfl⟩,Nat.mul_lt_mul_of_pos_left (Nat.lt_succ_self j) Nat.two_pos⟩
    ·cases hkm
  ·rw[h] at hkm ⊢
   rw[G.scB j hj] at hkm
   split at hkm
   ·simp at hkm
    rw[hkm,rkB ho hj,rkB ho (by assumption)];exact⟨⟨j + 1,by assumption,.inr rfl⟩,Nat.succ_lt_succ (Nat.mul_lt_mul_of_pos_left (Nat.lt_succ_self j) Nat.two_pos)⟩
   ·cases hkm
 obtain⟨g1,s1,f1,Z,H1⟩:=ts_freeze e0 hD hn (fun r hr=>(hnp r hr).1) H
 have ef1 : g1.fs=g.fs:=by unfold Bas.fs;rw[f1]
 have e1 : (as ++ [L + 1]).length=(os ++ [Sp.ce cv]).length:=by simp[e0]
 have zP1:=zP.stay s1
 have hps1:=Un (fun a b (z : Zx g.hp a b)=>z.mono s1) hps
 have hpvl : pvs.length=ps.length:=hps.length
 have hrdy : rdy np nd=[oA ord 0]:=by
  have:=NN_filter G ord.length (Nat.le_refl _)
  rw[← hnodes,List.filter_map,if_neg (by exact Nat.ne_of_gt ‹_›)] at this
  exact this
 refine Yj (Xd H1 (Za 2 rfl rfl) (.fz Z.I) (.ld (as ++ [L + 1]).length (ap (Ze rfl) _) (ap (Ze e1) _)) mk_prep (by kernel_rfl) (Zh (prep_ok (F:=np) (rk:=rkO ord) (hA.mono (by decide)) hh (by rw[ef1];exact FA) Z e1 scmem (S5 (un_le nd hscl) (by rw[hndl,← Nat.mul_assoc];exact S6 (Nat.mul_lt_mul_of_pos_left hz (by decide)) (by decide))) (by rw[hndl];exact S6 (Nat.mul_lt_mul_of_pos_left hz Nat.two_pos) (by decide)) H1) ?_ fun o_ o_ q=>q))
 rintro o_ h₁ ⟨rfl,R,H₁⟩
 rw[hrdy] at H₁
 refine w_assignS ["clock","hour"] (Zh (Q:=fun v h'=>∃ cl t tz,v=.ref t∧Led c (callEnvC Ut L 904) g1 (V5 ++ Mn) [some (.ref O),some (.ref P),some (.ref x),kv,none,none,none] (as ++ [L + 1] ++ tA dx R nd ++ [cl] ++ [t]) (os ++ [Sp.ce cv] ++ tO (tsS D R 0 0) (liI [oA ord 0]) np nd ++ [Sp.li []] ++ [Sp.tu [.ref cl,.int 0 tz]]) h')
  (Yr (Zi (Je (Zd ⟨by simp,Y7 (H₁.newL []) ev_i fun tz=>Zd ⟨by rw[sizeLine_eq];simp,_,_,tz,rfl,(H₁.newL []).newT _⟩⟩)))) ?_ (fun o_ o_ q=>q)) (by rfl)
 rintro o_ h₂ ⟨cl,t,tz,rfl,H2⟩
 have etl : (tA dx R nd).length=(tO (tsS D R 0 0) (liI [oA ord 0]) np nd).length:=by simp[tA,tO]
 refine Vs (l:=[.ref cl,.int 0 tz]) hh H2 (.ld _ (Ze rfl) (Ze H2.len1)) rfl fun h₃ H3=>?_
 have H4:=H3.take (as ++ [L + 1] ++ tA dx R nd ++ [cl]).length
 rw[List.take_left' rfl,List.take_left' (by simp[e0,etl])] at H4
 have H5:=H4.rot e1 etl
 refine Yi (Tm 5 rfl rfl H5 fun h6 H6=>Yi (Tm 4 rfl rfl H6 fun h7 H7=>Ud ?_))
 refine (?_ : SB c _ _ _ _ _ _ _ _ _ _) h7 H7
 have e2 : ∀ {sp : Sp},(as ++ [L + 1] ++ [cl]).length=(os ++ [Sp.ce cv] ++ [sp]).length:=fun {sp}=>by simp[e0]
 have S0:=CS.start (q:=oq ps ord) ho h0 G
 have hql : (oq ps ord).length=ord.length:=by simp[oq]
 have hqp : ∀ x∈oq ps ord,0≤x.1∧0≤x.2:=fun x hx=>by
  obtain⟨i,hi,rfl⟩:=Ng hx
  have:=(hin i hi).2
  rw[List.getD_eq_getElem?_getD,Nc this]
  exact hpos _ (List.getElem_mem _)
 clear H7 H6 H5 H4 H3 H2 H₁ H1
 refine Jf (fun m h'=>Ex12 fun (a b : Nat) (rs : List Int) (ks : List (Int × Int)) (F : Int→Int) (p f hour : Int) (t : Tok) (xs : List Value) (g' : Bas) (nv : Option Value)=>An6 (m=2 * ord.length - a - b) (CS ord (oq ps ord) a b rs ks F p f hour) (HpL g'.hp xs ks) (g1.hp.StaysIn g'.hp) (g'.fo=g1.fo) (Led c (callEnvC Ut L 904) g' (V5 ++ Mn) [some (.ref O),some (.ref P),some (.ref x),kv,some (.ref cl),some (.int hour t),nv] (as ++ [L + 1] ++ [cl] ++ tA dx R nd) (os ++ [Sp.ce cv] ++ [Sp.li xs] ++ tO (tsS D R p f) (liI rs) F nd) h'))
  (fun h'=>Ex5 fun (t : Tok) (xs : List Value) (g' : Bas) (nv : Option Value) (o' : List Sp)=>An4 (g1.hp.StaysIn g'.hp) (g'.fo=g1.fo) (o'.length=(tA dx R nd).length + 2) (Led c (callEnvC Ut L 904) g' (V5 ++ Mn) [some (.ref O),some (.ref P),some (.ref x),kv,some (.ref cl),some (.int (EB (oq ps ord) ord.length) t),nv] (as ++ ([L + 1] ++ [cl] ++ tA dx R nd)) (os ++ o') h'))
  (2 * ord.length - 0 - 0) (fun h' H'=>⟨0,0,_,[],np,0,0,0,tz,[],g1,none,rfl,S0,HpL.nil _,Zt _,rfl,H'⟩) ?_ ?_
 ·rintro I' JJ o_ QL h' ⟨a,b,rs,ks,F,p,f,hour,t,xs,g',nv,rfl,S,hp,k1,k2,H'⟩
  refine H'.lv ?_
  intro vw H'
  have Z':=Z.mono k1
  have hba:=S.ba
  have han:=S.an
  have hacl : rs.length + ks.length≤2:=by
   have:=S.ac.length_eq
   simp only[List.length_append,List.length_map] at this
   have h2 : (act ord a b).length≤2:=by unfold act;split <;> split <;> simp
   exact s2 ‹_› ‹_›
  have hxl : xs.length=ks.length:=hp.len
  obtain⟨u1,u2,Ho⟩:=H'.openT tA0 (tO0 e2)
  rw[tS0 e2] at Ho
  refine w_isT (Xd Ho (Za 2 rfl rfl) (.fz Z'.I) (.ld _ tA0 (tO0 e2)) mk_act (by kernel_rfl) (Zh (active_w (hA.mono (by decide)) Z' e2 (ya (yf hacl) (by decide : 2 < 3) (by decide)) H') ?_ fun o_ o_ q=>q))
  rintro o_ h₁ ⟨rfl,H₁⟩
  refine Yb ?_
  clear Ho H'
  by_cases hact : (decide (f < p) || !rs.isEmpty)=true
  ·refine ifT hact ?_
   have S1:=S.begin (w:=wN ps) ho hql (fun j hj=>⟨wNA ps ord hj,by
    rw[List.getD_eq_getElem?_getD,Nc (by exact q9 ‹_› ‹_›)]
    exact (hqp _ (List.getElem_mem _)).1⟩) (fun j hj=>⟨wNB ps ord hj,by
    rw[List.getD_eq_getElem?_getD,Nc (by exact q9 ‹_› ‹_›)]
    exact (hqp _ (List.getElem_mem _)).2⟩)
   have rsn : ∀ k∈rs,k∈nd.map (·.node):=fun k hk=>by
    rw[hnodes,Vz]
    rcases S.mem hk with ⟨e,q⟩ | ⟨e,q⟩
    ·exact⟨b,by exact r4 ‹_› ‹_›,.inr e⟩
    ·exact⟨a,q,.inl e⟩
   refine (?_ : SB c _ _ _ _ _ _ _ _ _ _) h₁ H₁
   clear H₁
   refine X9 (fun h''=>Ex3 fun (xs2 : List Value) (g2 : Bas) (nv2 : Option Value)=>An4 (HpL g2.hp xs2 (ks ++ rs.map fun x=>(hour + wN ps x,x))) (g1.hp.StaysIn g2.hp) (g2.fo=g1.fo) (Led c (callEnvC Ut L 904) g2 (V5 ++ Mn) [some (.ref O),some (.ref P),some (.ref x),kv,some (.ref cl),some (.int hour t),nv2] (as ++ [L + 1] ++ [cl] ++ tA dx R nd) (os ++ [Sp.ce cv] ++ [Sp.li xs2] ++ tO (tsS D R (p + rs.length) f) (liI []) (Mf F rs) nd) h'')) ?_ ?_
   intro F'
   refine fun h₂ H2=>?_
   ·obtain⟨u1,u2,Ho⟩:=H2.openT tA0 (tO0 e2)
    rw[tS0 e2] at Ho
    refine Xd Ho (Za 2 rfl rfl) (.fz Z'.I) (.ld _ tA0 (tO0 e2)) mk_ready (by kernel_rfl) (Zh (ready_ok (hA.mono (by decide)) hh Z' e2 rsn (ya (yf hacl) (by decide : 2 < 3) (by decide)) H2) ?_ fun o_ o_ q=>q.elim)
    rintro o_ h₃ ⟨T,g2,l,rfl,k3,k4,pl,zT,H3⟩
    clear Ho
    have hll : l.length=rs.length:=pl.length.symm
    refine Vl H3 (.fz zT) fun it h4 H4=>?_
    refine⟨it,l.length,fun j=>.itT T j,fun j v=>l[j]?=some v,fun g=>At g T (.tu l),
     fun j g3 vs3 as3 os3=>Ex2 fun (xs3 : List Value) (nv3 : Option Value)=>An6 (g2.hp.StaysIn g3.hp) (g3.fo=g1.fo) (HpL g3.hp xs3 (ks ++ (rs.take j).map fun x=>(hour + wN ps x,x))) (vs3=[some (.ref O),some (.ref P),some (.ref x),kv,some (.ref cl),some (.int hour t),nv3]) (as3=as ++ [L + 1] ++ [cl] ++ tA dx R nd) (os3=os ++ [Sp.ce cv] ++ [Sp.li xs3] ++ tO (tsS D R (p + rs.length) f) (liI []) (Mf F rs) nd),
     rfl,Jn hh,⟨g2,_,_,_,⟨xs,nv,Zt _,k4.trans k2,by simpa using hp.mono k3,rfl,rfl,rfl⟩,H4⟩,by rintro _ _ _ _ _ ⟨_,_,q,_⟩;exact zT.stay q,?_,?_⟩
    ·rintro J' j QL g3 o_ o_ o_ v h5 hj ⟨xs3,nv3,k5,k6,hp3,rfl,rfl,rfl⟩ hvv H5
     refine H5.lv ?_
     intro vl H5
     have hrj : rs[j]?=some (rs[j]'(by exact r1 ‹_› ‹_›)):=Nc _
     obtain⟨v',hv',tn,rfl⟩:=Sz pl hrj
     rw[hvv] at hv';cases hv'
     obtain⟨y,hy⟩ : ∃ y,y=rs[j]'(by exact r1 ‹_› ‹_›):=⟨_,rfl⟩
     rw[← hy] at hrj ⊢
     obtain⟨i,pb,hyi,hpb,hio⟩ : ∃ (i pb : Nat),y=2 * (i : Int) + (pb : Int)∧pb < 2∧i < ps.length:=by
      have hyr : y∈rs:=Nd hrj
      have hgm : ∀ j < ord.length,0≤ord.getD j 0∧(ord.getD j 0).toNat < ps.length:=fun j hj=>hin _ (by
       rw[List.getD_eq_getElem?_getD,Nc hj];exact List.getElem_mem _)
      rcases S.mem hyr with ⟨e,q⟩ | ⟨e,q⟩
      ·have:=hgm b (by exact r4 ‹_› ‹_›)
       exact⟨(ord.getD b 0).toNat,1,by rw[e,Int.toNat_of_nonneg this.1];rfl,by decide,this.2⟩
      ·have:=hgm a q
       exact⟨(ord.getD a 0).toNat,0,by rw[e,Int.toNat_of_nonneg this.1];rfl,by decide,this.2⟩
     have hwy : (pb=0∧wN ps y=(ps[i]'hio).1)∨(pb=1∧wN ps y=(ps[i]'hio).2):=by
      unfold wN
      rw[(yu hyi hpb).1,Int.toNat_natCast,List.getD_eq_getElem?_getD,Nc hio,Option.getD_some]
      rcases Nat.lt_or_ge pb 1 with q | q
      ·exact .inl ⟨Nat.lt_one_iff.mp q,if_pos ((yu hyi hpb).2.trans (congrArg _ (Nat.lt_one_iff.mp q)))⟩
      ·exact .inr ⟨Nat.le_antisymm (Nat.le_of_lt_succ hpb) q,if_neg fun z=>Nat.ne_of_gt q ((Int.ofNat_inj (n:=0)).mp ((yu hyi hpb).2.symm.trans z))⟩
     have k7:=Zc k1 (Zc k3 k5)
     refine Yp 6 rfl rfl H5 fun h6 H6=>?_
     have fd : (y.fdiv 2)=(i : Int):=by rw[Int.fdiv_eq_ediv_of_nonneg _ (by decide)];exact (yu hyi hpb).1
     have fm : (y.fmod 2)=(pb : Int):=by rw[Int.fmod_eq_emod_of_nonneg _ (by decide)];exact (yu hyi hpb).2
     refine Yj (Yl H6 (Xm (by rfl) n_pu) k_pu (Zq H6 (Za 4 rfl rfl) (Zi (Yr (Y7 H6 (Ji (Zj 5 rfl rfl) (ev_partN (w:=wN ps y) (Za 1 rfl rfl) (fd ▸ V7 (Zj 6 rfl rfl) ev_i (by decide) (by decide)) (fm ▸ Te (Zj 6 rfl rfl) ev_i (by decide)) (zP1.stay k7) (Un (fun a b (z : Zx g1.hp a b)=>z.mono k7) hps1) (Nc hio) (by exact q5 ‹_› ‹_› (by decide)) hwy)) fun tt=>Zq H6 (Za 6 rfl rfl) (Zd ⟨by rw[sizeLine_eq];simp,Zd ?_⟩))))))
     obtain⟨gg,r1,r2,H7,r4,r5⟩:=(H6.newT [.int (hour + wN ps y) tt,.int y tn]).key
     refine⟨H7.kin,?_⟩
     have hp3':=hp3.mono r1
     have hx3:=hp3.len
     simp only[List.length_append,List.length_map,List.length_take] at hx3
     refine Zh (Ug (j:=(as ++ [L + 1]).length) (hA.mono (by decide)) H7 (ap (ap (Ze rfl) _) _) (ap (ap (Ze e1) _) _) hp3'.isk r4 (ya (S7 (S9 hx3) (S7 (Nat.add_le_add_left (Nat.min_le_right ..) _) (S7 (S9 (Nat.add_comm ..)) hacl))) (by decide : 2 < 3) (by decide))) ?_ (fun o_ o_ q=>q.elim)
     rintro o_ h8 ⟨-,H8⟩
     have esx : ∀ {a b : List Sp}{u u' : Sp},(os ++ [Sp.ce cv] ++ [u] ++ a ++ b).set (as ++ [L + 1]).length u'=os ++ [Sp.ce cv] ++ [u'] ++ a ++ b:=fun {a b u u'}=>by
      rw[e1,List.append_assoc _ a b,Z6 (by simp),Yt rfl,List.append_assoc _ a b]
     rw[esx] at H8
     refine Zg (fun h9 H9=>?_) h8 H8
     refine⟨gg,_,_,_,⟨_,_,Zc k5 r1,r2.trans k6,?_,rfl,rfl,rfl⟩,H9⟩
     show HpL _ _ (ks ++ List.map _ (rs.take (j + 1)))
     rw[List.take_add_one,hrj,Option.toList_some,List.map_append,← List.append_assoc]
     have:=hp3'.push r4
     rw[r5] at this
     exact this
    ·rintro g3 o_ o_ o_ h5 ⟨xs3,nv3,k5,k6,hp3,rfl,rfl,rfl⟩ H5
     rw[hll,List.take_length] at hp3
     exact⟨xs3,g3,nv3,hp3,Zc k1 (Zc k3 k5),k6,H5⟩
   ·rintro h₂ ⟨xs2,g2,nv2,hp2,k3,k4,H2⟩
    refine H2.lv ?_
    intro vm H2
    have hx2:=hp2.len
    simp only[List.length_append,List.length_map] at hx2
    have hne : xs2≠[]:=fun e=>by
     rw[e] at hx2
     have hpf:=S.pf
     rcases Bool.or_eq_true_iff.mp hact with q | q
     ·have : f < p:=of_decide_eq_true q
      exact Int.ne_of_gt (Int.sub_pos_of_lt this) (hpf.trans (congrArg Int.ofNat (Nat.eq_zero_of_add_eq_zero_right hx2.symm)))
     ·cases rs with
      | nil=>simp at q
      | cons _ _=>simp at hx2
    have Z2:=Z.mono k3
    refine Vm (Yl H2 (Xm (by rfl) n_po) k_po (Zq H2 (Za 4 rfl rfl) (Zd ⟨H2.kin,Zh (Ms (j:=(as ++ [L + 1]).length) (hA.mono (by decide)) H2 (ap (Ze rfl) _) (ap (Ze e1) _) hp2.isk (ya (S7 (S9 hx2) (S7 (S9 (Nat.add_comm ..)) hacl)) (by decide : 2 < 3) (by decide)) hne hp2.heap) ?_ (fun o_ o_ q=>q.elim)⟩)))
    rintro r h₃ ⟨xs4,p1,p2,p3,H3⟩
    rw[Z6 (by simp[e0]),Yt e1] at H3
    have mr : r∈xs2:=p1.mem_iff.mp (.head _)
    obtain⟨ra,tt,y,v1,v2,rfl,zr⟩:=hp2.isk r mr
    have ek : key g2.hp (.ref ra)=(tt,y):=Jg zr
    have pk : ((tt,y) :: xs4.map (key g2.hp)).Perm (ks ++ rs.map fun x=>(hour + wN ps x,x)):=by
     have:=p1.map (key g2.hp)
     rw[List.map_cons,ek] at this
     exact this.trans hp2.perm
    have hmin : ∀ k∈xs4.map (key g2.hp),tt≤k.1:=fun k hk=>by
     obtain⟨z,hz,rfl⟩:=Ng hk
     have:=lex_le (show le KLt (key g2.hp (.ref ra)) (key g2.hp z) from p3 z hz)
     rwa [ek] at this
    have hm : (tt,y)∈ks ++ rs.map fun x=>(hour + wN ps x,x):=pk.mem_iff.mp (.head _)
    have hp4 : HpL g2.hp xs4 (xs4.map (key g2.hp)):=⟨fun v hv=>hp2.isk v (p1.mem_iff.mp (.tail _ hv)),p2,List.Perm.refl _⟩
    refine Ss hh H3 (.fz zr) rfl fun h4 H4=>Yi (Yp 5 rfl rfl H4 fun h5 H5=>Yi (Yp 6 rfl rfl H5 fun h6 H6=>Ud ?_))
    have hyn : y∈nd.map (·.node):=by
     rw[hnodes,Vz]
     rcases S1.memK hm with ⟨e,q⟩ | ⟨e,q⟩
     ·exact⟨b,by exact r4 ‹_› ‹_›,.inr e⟩
     ·exact⟨a,q,.inl e⟩
    obtain⟨i,r,hi,hrn⟩:=mem_idx hyn
    have hrm:=Nd hi
    have hrs:=(hnp r hrm).2.1
    have hFy : Mf F rs r.node=-1:=by rw[hrn];exact S1.out hm
    obtain⟨u1,u2,Ho⟩:=H6.openT tA0 (tO0 e2)
    rw[tS0 e2] at Ho
    have hsl:=hscl r hrm
    refine Yj (Uw Ho (Za 2 rfl rfl) (.fz Z2.I) (.ld _ tA0 (tO0 e2)) mk_done (by kernel_rfl) (Zq Ho (Za 6 rfl rfl) (Zd ⟨Ho.kin,Xy ?_⟩)))
    have hdn:=done_cd (t:=v2) (hA.mono (by decide)) hh Z2 e2 hi hFy (fun k hk=>(scmem r hrm k hk).1) (by simp;exact q2 ‹_› (by decide)) H6
    rw[hrn,← hrs,hrn] at hdn
    refine CD_to hdn ?_
    rintro o_ h7 ⟨rfl,H7⟩
    refine Zg (fun h8 H8=>?_) h7 H7
    rcases S1.memK hm with ⟨e,q⟩ | ⟨e,q⟩
    ·simp only at e
     subst e
     have S2:=S1.doneB ho hql (fun x hx=>(hqp x hx).1) G q pk hmin
     exact⟨2 * ord.length - a - (b + 1),Nat.sub_lt_sub_left (Nat.lt_sub_of_add_lt (by rw[Nat.two_mul];exact Nat.add_lt_add_of_lt_of_le (S6 q han) han)) (Nat.lt_succ_self b),a,b + 1,_,_,_,_,_,_,v1,xs4,g2,_,rfl,S2,hp4,k3,k4,H8⟩
    ·simp only at e
     subst e
     have S2:=S1.doneA ho G q pk hmin
     exact⟨2 * ord.length - (a + 1) - b,by rw[Nat.sub_sub,Nat.sub_sub,Nat.add_right_comm];exact Nat.sub_lt_sub_left (by rw[Nat.two_mul];exact Nat.add_lt_add_of_lt_of_le q (S7 hba han)) (Nat.lt_succ_self _),a + 1,b,_,_,_,_,_,_,v1,xs4,g2,_,rfl,S2,hp4,k3,k4,H8⟩
  ·refine ifF hact ?_
   have hpf:=S.pf
   have hr0 : rs=[]:=by
    cases rs with
    | nil=>rfl
    | cons _ _=>simp at hact
   subst hr0
   have hk0 : ks=[]:=by
    cases ks with
    | nil=>rfl
    | cons _ _ =>
     have : ¬ f < p:=fun q=>hact (by simp[q])
     exact absurd (Int.lt_of_sub_pos (hpf ▸ Int.natCast_pos.mpr (Nat.succ_pos _))) this
   subst hk0
   obtain⟨ea,eb⟩:=S.over
   have hhr:=S.hr
   rw[ea,eb] at hhr
   have:=EB_ge (fun x hx=>(hqp x hx).2) h0 (S9 hql.symm)
   have hh2 : hour=EB (oq ps ord) ord.length:=hhr.trans (Int.max_eq_right this)
   subst hh2
   refine⟨t,xs,g',nv,[Sp.ce cv] ++ [Sp.li xs] ++ tO (tsS D R p f) (liI []) F nd,k1,k2,by simp[tO,tA],?_⟩
   have e5 : as ++ ([L + 1] ++ [cl] ++ tA dx R nd)=as ++ [L + 1] ++ [cl] ++ tA dx R nd:=by simp only[List.append_assoc]
   have e6 : os ++ ([Sp.ce cv] ++ [Sp.li xs] ++ tO (tsS D R p f) (liI []) F nd)=os ++ [Sp.ce cv] ++ [Sp.li xs] ++ tO (tsS D R p f) (liI []) F nd:=by simp only[List.append_assoc]
   rw[e5,e6]
   exact H₁
 ·rintro h' ⟨t,xs,g',nv,o',k1,k2,k3,H'⟩
  refine (?_ : SB c _ _ _ _ _ _ _ _ _ _) h' H'
  refine Y6 (Za 5 rfl rfl) fun h₂ H2 v hv=>?_
  have:=H2.take as.length
  rw[List.take_left' rfl,e0,List.take_left' rfl] at this
  exact⟨⟨t,hv⟩,g',_,Zc s1 k1,k2.trans f1,this⟩
theorem clock_ok {O P : Addr}{ord : List Int}{ovs pvs : List Value}{ps : List (Int × Int)}(hA : Rm A 13) (hh : A.handled=none) (FA : FR A (env.locals :: g.fs)) (H : Led c env g ns vs as os h) (zO : At g.hp O (.li ovs)) (hO : pI ord ovs) (ho : ord.Nodup) (h0 : 0 < ord.length) (hz : ord.length < 20)
 (zP : At g.hp P (.li pvs)) (hps : Paired (Zx g.hp) pvs ps) (hin : ∀ i∈ord,0≤i∧i.toNat < ps.length) (hpos : ∀ p∈ps,0≤p.1∧0≤p.2) (hpl : ps.length < 1000) :
 W c A (call (.ref 904) [.ref O,.ref P]) (fun v h'=>isI (EB (oq ps ord) ord.length) v∧Led c env g ns vs as os h') noX h:=by
 refine Zl ?_
 intro Q'
 refine w_fnC (vs':=[some (.ref O),some (.ref P),none,none,none,none,none]) (sps:=[.ce none]) (ca:=fun L=>[L + 1]) H FA F_cl hA.depth (B_cl _ _) (fun L x hx=>?_) (Sy rfl F_cl.nd (fun x hx=>F_cl.kinds x (List.mem_append_left _ hx))) (fun L=>?_) (fun L=>rfl) fun L h₁ FO1 ec H1=>?_
 ·exact .inl (F_cl.kinds x.1 (List.mem_append_left _ (List.of_mem_zip hx).1))
 ·kernel_rfl
 have st:=H.stay
 refine Zh (clk_build (hA.deep (callEnvC Ut L 904)) hh H1 (zO.stay st) hO ho (by exact q1 ‹_› (by decide)) H.len (Q:=fun fl h'=>isI (EB (oq ps ord) ord.length) (Js fl)∧∃ (g' : Bas) (vs' : List (Option Value)),(subB g h env ns vs as).hp.StaysIn g'.hp∧g'.fo=(subB g h env ns vs as).fo∧Led c (callEnvC Ut L 904) g' (V5 ++ Mn) vs' as os h') fun x dx D t1 t2 g' nd kv cv h' k1 k2 k3 k4 k5 H'=>?_) ?_ fun o_ o_ q=>q
 ·have ef : g'.fs=(subB g h env ns vs as).fs:=by unfold Bas.fs;rw[k2]
  refine Zh (clk_run (hA.deep (callEnvC Ut L 904)) hh (by rw[ef];exact FO1.toFR) H' H.len k3 k4 k5 ho h0 hz ((zP.stay st).stay k1) (Un (fun a b (z : Zx g.hp a b)=>(z.mono st).mono k1) hps) hin hpos hpl) ?_ fun o_ o_ q=>q
  rintro fl h₂ ⟨q1,g2,vs2,q2,q3,H2⟩
  exact⟨q1,g2,vs2,Zc k1 q2,q3.trans k2,H2⟩
 ·rintro fl h₂ ⟨q1,g2,vs2,q2,q3,H2⟩
  have:=H.leave H2 q2 q3
  exact⟨q1,this.1.weaken (g':=g) H.low this.2 rfl⟩
theorem slot_dq_init : Slot "collections.deque" "__init__" "collections.deque.__init__":=.of (owner:="collections.deque") (n:="__init__") (by rw[typeLookup_type,builtinLookup_eq_fast];kernel_rfl) dk dk dk dk (by rw[isSubtype_type];kernel_rfl)
theorem mro_dq : mroOf (.type "collections.deque")=pure [.type "collections.deque",.type "object"]:=by rw[mroOf_type];kernel_rfl
theorem lookup_dq_new : typeLookup (.type "collections.deque") "__new__"=pure (some (.builtin "collections.deque.__new__")):=by rw[typeLookup_type,builtinLookup_eq_fast];kernel_rfl
theorem called_dq : TypeCalled "collections.deque" "collections.deque.__new__" "collections.deque.__init__":=
 ⟨dk,dk,⟨_,_,mro_dq⟩,madeBy_type mro_dq lookup_dq_new dk,dk,by rw[isSubtype_type];kernel_rfl,slot_dq_init⟩
theorem typeCall_dq : checkTypeCall "collections.deque" ⟨[],[]⟩=pure ():=by kernel_rfl
theorem newCall_dq : checkBuiltinCall "collections.deque.__new__" ⟨[.type "collections.deque"],[]⟩=pure ():=by kernel_rfl
theorem entry_dq_new : entryFor table "collections.deque.__new__"=some Builtin.«collections.deque.__new__»:=entryFor_of_tree (by kernel_rfl)
theorem entry_dq_init : entryFor table "collections.deque.__init__"=some Builtin.«collections.deque.__init__»:=entryFor_of_tree (by kernel_rfl)
theorem Mg : plainId "collections.deque.__new__"=true:=dk
theorem args_dq_init (a : Value) : argsOk "collections.deque.__init__" ⟨[a],[]⟩:=by unfold argsOk;kernel_rfl
theorem sub_dq : isSubtype (.type "collections.deque") (.type "collections.deque")=pure true:=by rw[isSubtype_type];kernel_rfl
theorem isT_dq : isType (.type "collections.deque")=pure true:=by kernel_rfl
theorem hasD_dq : typeHasDict (.type "collections.deque")=false:=dk
noncomputable abbrev dqO (n : Int) : Obj:={ cls:=.type "collections.deque",dict:=none,data:=.fields #[.none,rawInt n],slots:=#[] }
section
variable {prog : Program} {w : World} {E : Value → Shared → Prop} {s : Shared}
theorem code_dq_new {Q₁ : Value→Shared→Prop}(h : Q₁ (.ref s.heap.objs.size) { s with heap:=s.heap.push (dqO 0) }) :
 codeAny (model prog w) A (.call (.builtin "collections.deque.__new__") ⟨[.type "collections.deque"],[]⟩) (wants Q₁ E) s:=by
 refine codeAny_of_tree ?_
 show wpAny _ A.in1 (do checkBuiltinCall "collections.deque.__new__" ⟨[.type "collections.deque"],[]⟩;again (.builtin "collections.deque.__new__" ⟨[.type "collections.deque"],[]⟩)) _ _ s
 refine wpAny_bind (wpAny_of_eq newCall_dq (wpAny_pure ⟨plainId_quiet Mg _,codeAny_builtin entry_dq_new ?_⟩))
 rw[Around.under_plainId Mg _]
 unfold Builtin.«collections.deque.__new__» Builtin.Deque.newArgs
 have hsub : isSubtype (.type "collections.deque") (.type Builtin.Deque.ty)=pure true:=sub_dq
 have hit:=isT_dq
 have hnd:=hasD_dq
 obtain⟨hp,g,d,tk,os⟩:=s
 dsimp only
 repeat (any_goals (first | assumption | wp_step))
theorem call_dq {Q : Value→Shared→Prop}(h : Q (.ref s.heap.objs.size) { s with heap:=(s.heap.push (dqO 0)).update s.heap.objs.size (Obj.mapFields fun x=>x.setIfInBounds 0 Value.none) }) : wpAny (model prog w) A (call (.type "collections.deque") []) Q E s:=by
 refine callType_codes (Q₁:=fun obj s1=>obj=.ref s.heap.objs.size∧s1={ s with heap:=s.heap.push (dqO 0) }) called_dq typeCall_dq entry_dq_init (code_dq_new (Q₁:=fun obj s1=>obj=.ref s.heap.objs.size∧s1={ s with heap:=s.heap.push (dqO 0) }) ⟨rfl,rfl⟩) ?_
 rintro o_ o_ ⟨rfl,rfl⟩
 have hS : (s.heap.push (dqO 0)).get? s.heap.objs.size=some (dqO 0):=Heap.get?_push_size _ rfl
 refine⟨⟨_,hS,rfl⟩,args_dq_init _,?_⟩
 unfold Builtin.«collections.deque.__init__»
 dsimp only
 repeat (any_goals (first | assumption | wp_step))
 exact⟨rfl,h⟩
theorem noBool_dq : typeLookup (.type "collections.deque") "__bool__"=pure none:=by rw[typeLookup_type,builtinLookup_eq_fast];kernel_rfl
theorem Ub : Slot "collections.deque" "__len__" "collections.deque.__len__":=.of (owner:="collections.deque") (n:="__len__") (by rw[typeLookup_type,builtinLookup_eq_fast];kernel_rfl) dk dk dk dk (by rw[isSubtype_type];kernel_rfl)
theorem entry_dq_len : entryFor table "collections.deque.__len__"=some Builtin.«collections.deque.__len__»:=entryFor_of_tree (by kernel_rfl)
theorem args_dq_len (a : Value) : argsOk "collections.deque.__len__" ⟨[a],[]⟩:=by unfold argsOk;kernel_rfl
theorem dq_len (a : Addr) (n : Int) : Meets (Builtin.«collections.deque.__len__» ⟨[.ref a],[]⟩) (fun o_ R s=>s.heap.get? a=some (dqO n)∧R (.ok (.ret (.int 0 s.toks))) { s with toks:=s.toks + 1 }):=
 .of_wp fun prog w A R s h=>by
  obtain⟨hp,g,d,tk,os⟩:=s;obtain⟨ha,h⟩:=h
  unfold Builtin.«collections.deque.__len__» Builtin.Deque.size
  repeat (any_goals (first | assumption | wp_step))
  all_goals exact⟨_,rfl,h⟩
theorem truthy_dq {a : Addr}{n : Int}{Q : Bool→Shared→Prop}(ha : s.heap.get? a=some (dqO n)) (h : Q false { s with toks:=s.toks + 1 + 1 }) : wpAny (model prog w) A (truthy (.ref a)) Q E s:=by
 have hT : s.TypeIs (.ref a) "collections.deque":=⟨_,ha,rfl⟩
 have key : wpAny (model prog w) A (runValue (.builtin "len" ⟨[.ref a],[]⟩)) (fun r s'=>r=.int 0 (s.toks + 1)∧Q false s') E s:=by
  refine wpAny_runValue (codeAny_builtin entry_len ?_)
  rw[Around.under_plainId plain_len _]
  unfold Builtin.«len»
  refine wpAny_bind (m:=oneArg "len" _) (wpAny_pure ?_)
  refine wpAny_bind (m:=callSpecial? (.ref a) (Str.ofString "__len__")) (wpAny_callSpecial?_slot (name:=Str.ofString "__len__") hT Ub (call_meets Ub hT entry_dq_len (args_dq_len _) (dq_len a n) ⟨ha,?_⟩))
  show wpAny _ _ _ _ _ { s with toks:=s.toks + 1 }
  refine wpAny_bind (wpAny_holding (wpAny_pure ?_))
  refine wpAny_bind (wpAny_letGo ?_)
  exact wpAny_bind (wpAny_mkInt (wpAny_pure ⟨rfl,h⟩))
 unfold truthy
 first
  | refine wpAny_bind (wpAny_callSpecial?_none (name:=Str.ofString "__bool__") hT noBool_dq ?_)
  | refine wpAny_bind (wpAny_pure (wpAny_bind (wpAny_callSpecial?_none (name:=Str.ofString "__bool__") hT noBool_dq ?_)))
 first
  | refine wpAny_bind (wpAny_specialOf (name:=Str.ofString "__len__") hT Ub.lookup ?_)
  | refine wpAny_bind (wpAny_pure (wpAny_bind (wpAny_specialOf (name:=Str.ofString "__len__") hT Ub.lookup ?_)))
 first
  | exact wpAny_bind (wpAny_mono key (fun r s' h'=>by obtain⟨rfl,hq⟩:=h';exact wpAny_pure hq) fun o_ o_ e=>e)
  | exact wpAny_bind (wpAny_pure (wpAny_bind (wpAny_mono key (fun r s' h'=>by obtain⟨rfl,hq⟩:=h';exact wpAny_pure hq) fun o_ o_ e=>e)))
end
noncomputable abbrev dqS : Sp:=.ob (dqO 0)
theorem c_deque {Q : Value→Heap→Prop}(H : Led c env g ns vs as os h) (k : ∀ a h',Led c env g ns vs (as ++ [a]) (os ++ [dqS]) h'→Q (.ref a) h') : W c A (call (.type "collections.deque") []) Q X h:=fun kk=>by
 refine call_dq (s:=stt c h kk) ⟨⟨rfl,rfl,rfl⟩,k _ _ ?_⟩
 have H1:=H.alloc (o:=dqO 0) (sp:=dqS) rfl rfl
 have hS : (h.push (dqO 0)).get? h.objs.size=some (dqO 0):=Heap.get?_push_size _ rfl
 have:=H1.upd (i:=as.length) (a:=h.objs.size) (o':=dqS) (h':=(h.push (dqO 0)).update h.objs.size (Obj.mapFields fun x=>x.setIfInBounds 0 Value.none)) (Ze rfl) (Ze H.len) (Heap.SameBut.update ..) ⟨_,Heap.get?_update_self _ hS rfl,rfl⟩
 rwa [Yt H.len] at this
theorem tr_dq {a : Addr}(z : Loc g as os a dqS) (h : Heap) (H : Led c env g ns vs as os h) (v : Value) (hv : v=.ref a) : W c A (truthy v) (fun b h'=>h'=h∧b=false) noX h:=fun k=>by
 subst hv
 obtain⟨o,e,rfl⟩:=H.get z
 exact truthy_dq (s:=stt c h k) e ⟨⟨rfl,rfl,rfl⟩,rfl,rfl⟩
noncomputable def inS (y x : Str) : Bool:=!(Builtin.Str.occurrences x y 0 x.length 1).isEmpty
theorem Yu {x y : Str}(h : Heap) (_ : Led c env g ns vs as os h) (a b : Value) (ha : isS x a) (hb : isS y b) : W c A (compareOp .Eq a b) (fun v h'=>h'=h∧v=.bool (x == y)) noX h:=fun k=>by
 obtain⟨t,rfl⟩:=ha;obtain⟨u,rfl⟩:=hb;exact PyProof.Rows.eq_str ⟨⟨rfl,rfl,rfl⟩,rfl,rfl⟩
theorem ne_ss {x y : Str}(h : Heap) (_ : Led c env g ns vs as os h) (a b : Value) (ha : isS x a) (hb : isS y b) : W c A (compareOp .NotEq a b) (fun v h'=>h'=h∧v=.bool (x != y)) noX h:=fun k=>by
 obtain⟨t,rfl⟩:=ha;obtain⟨u,rfl⟩:=hb;exact PyProof.Rows.ne_str ⟨⟨rfl,rfl,rfl⟩,rfl,rfl⟩
theorem Zv {x y : Str}(h : Heap) (_ : Led c env g ns vs as os h) (a b : Value) (ha : isS y a) (hb : isS x b) : W c A (compareOp .In a b) (fun v h'=>h'=h∧v=.bool (inS y x)) noX h:=fun k=>by
 obtain⟨t,rfl⟩:=ha;obtain⟨u,rfl⟩:=hb;exact PyProof.Rows.in_str ⟨⟨rfl,rfl,rfl⟩,rfl,rfl⟩
theorem eq_sn {x : Str}(h : Heap) (_ : Led c env g ns vs as os h) (a b : Value) (ha : isS x a) (hb : b=.none) : W c A (compareOp .Eq a b) (fun v h'=>h'=h∧v=.bool false) noX h:=fun k=>by
 obtain⟨t,rfl⟩:=ha;subst hb;exact PySem.EqNone.eq_str_none ⟨⟨rfl,rfl,rfl⟩,rfl,rfl⟩
theorem eq_nn (h : Heap) (_ : Led c env g ns vs as os h) (a b : Value) (ha : a=.none) (hb : b=.none) : W c A (compareOp .Eq a b) (fun v h'=>h'=h∧v=.bool true) noX h:=fun k=>by
 subst ha;subst hb;exact PySem.EqNone.eq_none_none ⟨⟨rfl,rfl,rfl⟩,rfl,rfl⟩
theorem is_pl {x y : Value}(hp : plainIs x y=true) (h : Heap) (_ : Led c env g ns vs as os h) (a b : Value) (ha : a=x) (hb : b=y) : W c A (compareOp .Is a b) (fun v h'=>h'=h∧v=.bool (x == y)) noX h:=by
 refine Zl ?_
 intro Q'
 subst ha;subst hb;exact c_is hp ⟨rfl,rfl⟩
theorem Mb {x y : Value}(hp : plainIs x y=true) (h : Heap) (_ : Led c env g ns vs as os h) (a b : Value) (ha : a=x) (hb : b=y) : W c A (compareOp .IsNot a b) (fun v h'=>h'=h∧v=.bool (!(x == y))) noX h:=by
 refine Zl ?_
 intro Q'
 subst ha;subst hb;exact Vj hp ⟨rfl,rfl⟩
theorem X6 {x : Str}(h : Heap) (_ : Led c env g ns vs as os h) (a b : Value) (ha : isS x a) (hb : b=.none) : W c A (compareOp .Is a b) (fun v h'=>h'=h∧v=.bool false) noX h:=by
 refine Zl ?_
 intro Q'
 obtain⟨t,rfl⟩:=ha;subst hb;exact c_is rfl ⟨rfl,rfl⟩
theorem V6 {x : Str}(h : Heap) (_ : Led c env g ns vs as os h) (a b : Value) (ha : isS x a) (hb : b=.none) : W c A (compareOp .IsNot a b) (fun v h'=>h'=h∧v=.bool true) noX h:=by
 refine Zl ?_
 intro Q'
 obtain⟨t,rfl⟩:=ha;subst hb;exact Vj rfl ⟨rfl,rfl⟩
theorem X4 {x : Str}(hz : x.length < 2 ^ 60) (h : Heap) (H : Led c env g ns vs as os h) (v : Value) (hv : isS x v) : W c A (truthy v) (fun b h'=>h'=h∧b=((x.length : Int) != 0)) noX h:=fun k=>by
 obtain⟨t,rfl⟩:=hv
 exact P.truthy_str (by lia) ⟨⟨rfl,rfl,rfl⟩,rfl,rfl⟩
theorem tr_bb {b : Bool}(h : Heap) (H : Led c env g ns vs as os h) (v : Value) (hv : v=.bool b) : W c A (truthy v) (fun d h'=>h'=h∧d=b) noX h:=by
 refine Zl ?_
 intro Q'
 subst hv;exact Yb ⟨rfl,rfl⟩
theorem Uz {l r : Expr}{p : Pos}{x y : Str}(a : EV c A env l g ns vs as os (isS x)) (b : EV c A env r g ns vs as os (isS y)) (hz : x.length + y.length < 100000) : EV c A env (.BinOp l .Add r p) g ns vs as os (isS (x ++ y)):=
 U6 a b fun h H v w ⟨t,hv⟩ ⟨u,hw⟩ k=>by subst hv;subst hw;exact PyProof.Rows.add_str (fun t' tk=>⟨⟨rfl,rfl,rfl⟩,rfl,_,rfl⟩) (by rw[sizeLine_eq];exact q3 ‹_› (by decide))
theorem c_iaddS {x y : Str}{t u : Tok}{Q : Value→Heap→Prop}(hz : x.length + y.length < 100000) (k : ∀ t',Q (.str (x ++ y) t') h) : W c A (inplaceOp .Add (.str x t) (.str y u)) Q X h:=fun kk =>
 PyProof.Rows.iadd_str (fun t' tk=>⟨⟨rfl,rfl,rfl⟩,k t'⟩) (by rw[sizeLine_eq];exact q3 ‹_› (by decide))
theorem ev_lenS {f : Str}{fp pos : Pos}{e : Expr}{x : Str}(hf : EV c A env (.Name f fp) g ns vs as os (·=.builtin "len")) (y : EV c A env e g ns vs as os (isS x)) (hz : x.length < 2 ^ 60)
 (he : autoParam (starEach [e] env=(false,eval e env) :: starEach [] env) zR) : EV c A env (.Call (.Name f fp) [e] [] pos) g ns vs as os (isI x.length):=by
 refine fun h H=>w_callb H hf (Y5 y Ux he) (fun l q k=>?_) he rfl
 obtain⟨v,l',rfl,⟨t,rfl⟩,rfl⟩:=q
 exact P.len_str (by lia) ⟨⟨rfl,rfl,rfl⟩,rfl,_,rfl⟩
theorem tail_X {prog : Program}{w : World}{E : Value→Shared→Prop}{s : Shared}{value slice : Expr}{o i : Value}{ops : List Value}{Q : Value→Shared→Prop}(h : ItemOn (model prog w) A E o i Q s) (hs : subscripted slice false o i=operate ops (getItem o i)) : wpAny (model prog w) A (subscriptTail value slice o i) Q E s:=by
 obtain⟨T,id,hl,hT,hg⟩:=h
 unfold subscriptTail
 refine wpAny_bind ?_
 rw[getitemInPython_of_ne hT.not_modules]
 refine wpAny_bind (wpAny_specialOf hT hl ?_)
 have fin : wpAny (model prog w) A (subscripted slice false o i) (fun r s3=>wpAny (model prog w) A (letTemporaryGo value o r >>= fun o_=>pure r) Q E s3) E s:=by
  rw[hs]
  exact wpAny_operating (wpAny_mono hg (fun r s3 h₃=>wpAny_bind (wpAny_letTemporaryGo (wpAny_pure h₃))) fun o_ o_ x=>x)
 first
  | exact wpAny_pure (wpAny_bind fin)
  | exact wpAny_bind (wpAny_pure (wpAny_bind fin))
  | exact wpAny_bind fin
theorem w_sliceS {l : Expr}{e1 e2 : Expr}{p p' : Pos}{x : Str}{i j : Nat}{ops : Value→Addr→List Value}{Q : Value→Heap→Prop}(H : Led c env g ns vs as os h) (y : EV c A env l g ns vs as os (isS x)) (x1 : EV c A env e1 g ns vs as os (isI i)) (x2 : EV c A env e2 g ns vs as os (isI j)) (hz : x.length < 100000) (hij : i≤j) (hj : j≤x.length)
 (k : ∀ t h',Led c env g ns vs as os h'→Q (.str ⟨((x.cps.toList.drop i).take (j - i)).toArray⟩ t) h')
 (hs : ∀ v r,subscripted (.Slice (some e1) (some e2) none p') false v (.ref r)=operate (ops v r) (getItem v (.ref r)):=by intro _ _;with_unfolding_all rfl) : W c A (eval (.Subscript l (.Slice (some e1) (some e2) none p') p) env) Q X h:=by
 refine w_sub (y.runS H fun t=>?_)
 refine fun kk=>wpAny_Slice ?_
 rw[evalPart_some,evalPart_some,evalPart_none]
 refine wpAny_mono (x1 h H kk) (fun v1 s1 q1=>?_) fun o_ o_ q=>q.2.elim
 obtain⟨o1,e1,u1,rfl⟩:=q1
 rw[o1.eq,e1]
 refine wpAny_mono (x2 h H _) (fun v2 s2 q2=>wpAny_pure ?_) fun o_ o_ q=>q.2.elim
 obtain⟨o2,e2,u2,rfl⟩:=q2
 rw[o2.eq,e2]
 refine⟨⟨rfl,rfl,rfl⟩,fun k2=>?_⟩
 have e3 : Txt.slice x (some (i : Int)) (some (j : Int))=⟨((x.cps.toList.drop i).take (j - i)).toArray⟩:=by
  have:=beq_iff_eq.mp (slice_closesL (x:=x) (i:=i) (j:=j) (by with_reducible exact Int.natCast_nonneg _) (by lia) (by lia))
  rw[this,Int.toNat_natCast,Int.toNat_sub]
 exact tail_X (SBH.sliceItem_ss (s:=stt c h k2) (P:=Led c env g ns vs as os) (fun h' ob H'=>H'.push ob) H (fun h' t' kx H'=>⟨⟨rfl,rfl,rfl⟩,e3 ▸ k t' h' H'⟩) (by rw[sizeLine_eq];exact q3 ‹_› (by decide))) (hs _ _)
theorem ev_type {f : Str}{fp pos : Pos}{e : Expr}{R : Value→Prop}{T : String}(hf : EV c A env (.Name f fp) g ns vs as os (·=.type "type")) (y : EV c A env e g ns vs as os R) (hR : ∀ v s,R v→Shared.TypeIs s v T) (hT : (Value.type T == Value.type "builtin_function_or_method")=false)
 (he : autoParam (starEach [e] env=(false,eval e env) :: starEach [] env) zR) : EV c A env (.Call (.Name f fp) [e] [] pos) g ns vs as os (·=.type T):=fun h H =>
 Xo H hf (Zi (y.run H fun v hv=>Zd fun kk=>call_type_of (s:=stt c h kk) (hR v _ hv) hT ⟨⟨rfl,rfl,rfl⟩,rfl,rfl⟩) he) he
theorem V8 {n attr : Str}{xp p' p : Pos}{value : Expr}{rest : List Stmt}{x C dx : Addr}{l : List (Str × Value)}{j : Nat}{R : Value→Prop}{Q : Flow→Heap→Prop}(y : EV c A env value g ns vs as os R) (z : EV c A env (.Name n xp) g ns vs as os (·=.ref x)) (I : Loc g as os x (.ob (Z9 C dx))) (ha : as[j]?=some dx) (ho : os[j]?=some (atS l)) (k : X5 C attr) (hz : l.length < 900)
 (q : ∀ v,R v→SB c A env rest g ns vs as (os.set j (atS (Xx attr v l))) Q X) (hs : autoParam (swapsWith value (some (.Attribute (.Name n xp) attr p')) p.line env=pure false) zR) : SB c A env (.Assign [.Attribute (.Name n xp) attr p'] value p :: rest) g ns vs as os Q X:=fun h H =>
 Xb (y.run H fun v hv=>z.eq H (Ue H I ha ho k hz fun h' H'=>q v hv h' H')) hs
theorem n_type (P : Params) : nsIn (K P) mainGlobals "type"=some none:=by kernel_rfl
theorem n_int (P : Params) : nsIn (K P) mainGlobals "int"=some none:=by kernel_rfl
theorem n_str (P : Params) : nsIn (K P) mainGlobals "str"=some none:=by kernel_rfl
theorem n_index (P : Params) : nsIn (K P) mainGlobals "_index"=some (some (.ref 201)):=by kernel_rfl
theorem k_index : Jc 201:=fun P=>by kernel_rfl
noncomputable abbrev fdIX : FuncData:=Xl (st 15) "_index" .none (.str "io" 512) (.ref 200)
noncomputable abbrev psIX : List PySem.Str:=["n","what"]
theorem F_ix : FnK 201 fdIX (fnB (st 15)) (psIX ++ []):=⟨fun P=>by kernel_rfl,fun P=>by kernel_rfl,rfl,by kernel_rfl,dk,dk,dk,rfl,rfl,by kernel_rfl,by kernel_rfl⟩
theorem B_ix (a b : Value) : bindArgs fdIX ⟨[a,b],[]⟩=pure (psIX.zip [a,b]):=by kernel_rfl
noncomputable abbrev nlS : PySem.Str:=Str.ofString "\n"
noncomputable abbrev ioA (nl b p : Value) : List (Str × Value):=[(Str.ofString "_StringIO__newline",nl),(Str.ofString "_StringIO__buf",b),(Str.ofString "_StringIO__pos",p)]
noncomputable abbrev ioS (s : Str) (p : Nat) : Sp:=.pr fun o=>∃ es n tn tb tp,o=dictOf es n∧ES es (ioA (.str nlS tn) (.str s tb) (.int p tp))
theorem gk_nl : Jo 735 "_StringIO__newline":=fun P=>⟨by kernel_rfl,by kernel_rfl,none,by kernel_rfl,by kernel_rfl⟩
theorem M2 : Jo 735 "_StringIO__buf":=fun P=>⟨by kernel_rfl,by kernel_rfl,none,by kernel_rfl,by kernel_rfl⟩
theorem gk_pos : Jo 735 "_StringIO__pos":=fun P=>⟨by kernel_rfl,by kernel_rfl,none,by kernel_rfl,by kernel_rfl⟩
theorem sk_nl : X5 735 "_StringIO__newline":=fun P=>⟨by kernel_rfl,by kernel_rfl,by kernel_rfl,by kernel_rfl⟩
theorem sk_buf : X5 735 "_StringIO__buf":=fun P=>⟨by kernel_rfl,by kernel_rfl,by kernel_rfl,by kernel_rfl⟩
theorem sk_pos : X5 735 "_StringIO__pos":=fun P=>⟨by kernel_rfl,by kernel_rfl,by kernel_rfl,by kernel_rfl⟩
theorem look_nl {a b p : Value} : (ioA a b p).lookup (Str.ofString "_StringIO__newline")=some a:=by kernel_rfl
theorem Up {a b p : Value} : (ioA a b p).lookup (Str.ofString "_StringIO__buf")=some b:=by kernel_rfl
theorem look_pos {a b p : Value} : (ioA a b p).lookup (Str.ofString "_StringIO__pos")=some p:=by kernel_rfl
theorem lput_pos {a b p q : Value} : Xx (Str.ofString "_StringIO__pos") q (ioA a b p)=ioA a b q:=by kernel_rfl
theorem lput_buf {a b p q : Value} : Xx (Str.ofString "_StringIO__buf") q (ioA a b p)=ioA a q p:=by kernel_rfl
theorem mk_check : Jb 735 "_StringIO__check" 519:=fun P=>⟨by kernel_rfl,by kernel_rfl,by kernel_rfl,by kernel_rfl⟩
theorem mk_trans : Jb 735 "_StringIO__translated" 512:=fun P=>⟨by kernel_rfl,by kernel_rfl,by kernel_rfl,by kernel_rfl⟩
theorem mk_line : Jb 735 "_StringIO__line" 533:=fun P=>⟨by kernel_rfl,by kernel_rfl,by kernel_rfl,by kernel_rfl⟩
theorem mk_read : Jb 735 "read" 681:=fun P=>⟨by kernel_rfl,by kernel_rfl,by kernel_rfl,by kernel_rfl⟩
theorem mk_readline : Jb 735 "readline" 689:=fun P=>⟨by kernel_rfl,by kernel_rfl,by kernel_rfl,by kernel_rfl⟩
noncomputable abbrev fdCK : FuncData:=Xl (me 21 3) "StringIO.__check" .none (.str "io" 512) (.ref 518)
noncomputable abbrev psCK : List PySem.Str:=["self"]
theorem F_ck : FnK 519 fdCK (fnB (me 21 3)) (psCK ++ []):=⟨fun P=>by kernel_rfl,fun P=>by kernel_rfl,rfl,by kernel_rfl,dk,dk,dk,rfl,rfl,by kernel_rfl,by kernel_rfl⟩
theorem B_ck (a : Value) : bindArgs fdCK ⟨[a],[]⟩=pure (psCK.zip [a]):=by kernel_rfl
noncomputable abbrev fdTR : FuncData:=Xl (me 21 2) "StringIO.__translated" .none (.str "io" 512) (.ref 511)
noncomputable abbrev psTR : List PySem.Str:=["self","s"]
noncomputable abbrev rsTR : List PySem.Str:=["newline"]
theorem F_tr : FnK 512 fdTR (fnB (me 21 2)) (psTR ++ rsTR):=⟨fun P=>by kernel_rfl,fun P=>by kernel_rfl,rfl,by kernel_rfl,dk,dk,dk,rfl,rfl,by kernel_rfl,by kernel_rfl⟩
theorem B_tr (a b : Value) : bindArgs fdTR ⟨[a,b],[]⟩=pure (psTR.zip [a,b]):=by kernel_rfl
noncomputable abbrev fdRD : FuncData:=Xl (me 21 25) "StringIO.read" (.ref 674) (.str "io" 512) (.ref 680)
noncomputable abbrev psRD : List PySem.Str:=["self","size"]
noncomputable abbrev rsRD : List PySem.Str:=["start","stop"]
theorem F_rd : FnK 681 fdRD (fnB (me 21 25)) (psRD ++ rsRD):=⟨fun P=>by kernel_rfl,fun P=>by kernel_rfl,rfl,by kernel_rfl,dk,dk,dk,rfl,rfl,by kernel_rfl,by kernel_rfl⟩
theorem B_rd {s : Shared}{P : Params}(X : (K P).In s.heap) (a b : Value) : BindsTo s fdRD ⟨[a,b],[]⟩ (psRD.zip [a,b]):=
 binds_K (K:=K P) (T:=674) (o:=o674 P) (items:=#[.int (-1) 1089]) (n:=0) X rfl (by kernel_rfl) rfl rfl rfl
noncomputable def chr (s : Str) (p : Nat) : Str:=⟨((s.cps.toList.drop p).take 1).toArray⟩
noncomputable def nxt (s : Str) (p : Nat) : Nat:=if p < s.length then p + 1 else p
theorem Led.openIO {s : Str}{p j : Nat}{a : Addr}(H : Led c env g ns vs as os h) (ha : as[j]?=some a) (ho : os[j]?=some (ioS s p)) : ∃ tn tb tp,Led c env g ns vs as (os.set j (atS (ioA (.str nlS tn) (.str s tb) (.int p tp)))) h:=by
 obtain⟨o,e,es,n,tn,tb,tp,rfl,x⟩:=H.at_ j _ _ ha ho
 exact⟨tn,tb,tp,H.spec ha ho ⟨_,e,es,n,rfl,x⟩⟩
theorem Led.closeIO {s : Str}{p j : Nat}{a : Addr}{tn tb tp : Tok}(H : Led c env g ns vs as os h) (ha : as[j]?=some a) (ho : os[j]?=some (atS (ioA (.str nlS tn) (.str s tb) (.int p tp)))) : Led c env g ns vs as (os.set j (ioS s p)) h:=by
 obtain⟨o,e,es,n,rfl,x⟩:=H.at_ j _ _ ha ho
 exact H.spec ha ho ⟨_,e,es,n,tn,tb,tp,rfl,x⟩
theorem tyI {n : Int}(v : Value) (s : Shared) (h : isI n v) : Shared.TypeIs s v "int":=by obtain⟨t,rfl⟩:=h;exact typeIs_int _ _ _
theorem tyS {x : Str}(v : Value) (s : Shared) (h : isS x v) : Shared.TypeIs s v "str":=by obtain⟨t,rfl⟩:=h;exact typeIs_str _ _ _
theorem ev_intI {f : Str}{fp pos : Pos}{e : Expr}{n : Int}(hf : EV c A env (.Name f fp) g ns vs as os (·=.type "int")) (y : EV c A env e g ns vs as os (isI n)) (he : autoParam (starEach [e] env=(false,eval e env) :: starEach [] env) zR) : EV c A env (.Call (.Name f fp) [e] [] pos) g ns vs as os (isI n):=fun h H =>
 Xo H hf (Y7 H y (fun t=>Zd fun kk=>call_int_int (s:=stt c h kk) ⟨⟨rfl,rfl,rfl⟩,rfl,t,rfl⟩) he) he
theorem index_ok {n : Int}{t : Tok}{w : Value}(hA : Rm A 2) (H : Led c env g ns vs as os h) (hn : -1000≤n) (hn2 : n≤1000) : W c A (call (.ref 201) [.int n t,w]) (fun v h'=>isI n v∧Led c env g ns vs as os h') noX h:=by
 refine Zl ?_
 intro Q'
 refine Us H F_ix hA.depth (B_ix _ _) rfl dk fun L h₁ H1=>?_
 refine (?_ : SB c _ _ _ _ _ _ _ _ _ _) h₁ H1
 refine Ym (d:=false) ((Ys (d:=false) (e:=false) ((Zb (ev_type (Zr (by rfl) n_type PyProof.Rows.boot_type) (Zj 0 rfl rfl) (fun v s h=>tyI v s h) (by decide)) (Zr (by rfl) n_int PyProof.Rows.boot_int) (Mb rfl)).cast (by decide)) (fun q=>by cases q)).cast rfl) (fun q=>by cases q) fun o_=>Zg fun h₂ H2=>?_
 refine (?_ : SB c _ _ _ _ _ _ _ _ _ _) h₂ H2
 refine Zs 0 rfl rfl (ev_intI (Zr (by rfl) n_int PyProof.Rows.boot_int) (Zj 0 rfl rfl)) ?_
 rintro o_ ⟨t2,rfl⟩
 refine Ym (d:=false) ((tv_or2 (Zb (Zj 0 rfl rfl) ev_i gt_ii) (fun o_=>Zb (Zj 0 rfl rfl) (Sb ev_i) T0)).cast (by simp;exact⟨Nb hn2 (by decide),Nb (by decide) hn⟩)) (fun q=>by cases q) fun o_=>Zg fun h₃ H3=>?_
 refine (?_ : SB c _ _ _ _ _ _ _ _ _ _) h₃ H3
 exact Y6 (Zj 0 rfl rfl) fun h4 H4 v hv=>⟨hv,H.leave₀ H4⟩
theorem check_ok {x dx : Addr}{nl p : Value}{s : Str}{tb : Tok}(hA : Rm A 2) (H : Led c env g ns vs as os h) (I : Loc g as os x (.ob (Z9 735 dx))) (D : Loc g as os dx (atS (ioA nl (.str s tb) p))) : W c A (call (.ref 519) [.ref x]) (fun v h'=>v=.none∧Led c env g ns vs as os h') noX h:=by
 refine Zl ?_
 intro Q'
 refine Us H F_ck hA.depth (B_ck _) rfl dk fun L h₁ H1=>?_
 refine (?_ : SB c _ _ _ _ _ _ _ _ _ _) h₁ H1
 refine Ym (d:=false) (Zb ((Z0 (Za 0 rfl rfl) (I.sub H) (D.sub H) M2 Up : EV c _ _ _ _ _ _ _ _ _).mono fun v e=>⟨tb,e⟩) ev_none X6) (fun q=>by cases q) fun o_=>Zg fun h₂ H2=>?_
 exact Zg (fun h₃ H3=>⟨rfl,H.leave₀ H3⟩) h₂ H2
theorem trans_ok {x dx : Addr}{b p : Value}{tn : Tok}{v : Value}(hA : Rm A 2) (H : Led c env g ns vs as os h) (I : Loc g as os x (.ob (Z9 735 dx))) (D : Loc g as os dx (atS (ioA (.str nlS tn) b p))) : W c A (call (.ref 512) [.ref x,v]) (fun v' h'=>v'=v∧Led c env g ns vs as os h') noX h:=by
 refine Zl ?_
 intro Q'
 refine Us H F_tr hA.depth (B_tr _ _) rfl dk fun L h₁ H1=>?_
 refine (?_ : SB c _ _ _ _ _ _ _ _ _ _) h₁ H1
 refine Zs 2 rfl rfl (Z0 (Za 0 rfl rfl) (I.sub H) (D.sub H) gk_nl look_nl) ?_
 rintro o_ rfl
 refine Ym (d:=false) (Zb (Zk 2 rfl rfl) ev_none X6) (fun q=>by cases q) fun o_=>Zg fun h₂ H2=>?_
 refine (?_ : SB c _ _ _ _ _ _ _ _ _ _) h₂ H2
 refine Ym (d:=false) ((tv_or2 (Zb (Zk 2 rfl rfl) ev_s Yu) (fun o_=>Zb (Zk 2 rfl rfl) ev_s Yu)).cast dk) (fun q=>by cases q) fun o_=>Zg fun h₃ H3=>?_
 refine (?_ : SB c _ _ _ _ _ _ _ _ _ _) h₃ H3
 exact Y6 (Za 1 rfl rfl) fun h4 H4 v hv=>⟨hv,H.leave₀ H4⟩
theorem read1_ok {x dx : Addr}{s : Str}{p j : Nat}{t : Tok}(hA : Rm A 4) (H : Led c env g ns vs as os h) (I : ∀ sp,Loc g as (os.set j sp) x (.ob (Z9 735 dx))) (ha : as[j]?=some dx) (ho : os[j]?=some (ioS s p)) (hz : s.length < 90000) (hp : p < 90000) :
 W c A (call (.ref 681) [.ref x,.int 1 t]) (fun v h'=>isS (chr s p) v∧Led c env g ns vs as (os.set j (ioS s (nxt s p))) h') noX h:=by
 refine Zl ?_
 intro Q'
 obtain⟨tn,tb,tp,H⟩:=H.openIO ha ho
 have jl:=Zn ho
 refine Xy (S4 (ps:=psRD) (rs:=rsRD) (zs:=[.ref x,.int 1 t]) H F_rd hA.depth (fun k=>B_rd (P:=c.w.params) H.kin _ _) rfl dk fun L h₁ H1=>?_)
 have hA':=hA.deep (callEnv fdRD L 681)
 have og : ∀ {a : Sp},(os.set j a)[j]?=some a:=fun {a}=>List.getElem?_set_self jl
 have I' : ∀ {sp : Sp},Loc (subB g h env ns vs as) as (os.set j sp) x (.ob (Z9 735 dx)):=fun {sp}=>(I sp).monoG H.stay
 have D' : ∀ {q : Value},Loc (subB g h env ns vs as) as (os.set j (atS (ioA (.str nlS tn) (.str s tb) q))) dx (atS (ioA (.str nlS tn) (.str s tb) q)):=.ld j ha og
 refine (?_ : SB c _ _ _ _ _ _ _ _ _ _) h₁ H1
 refine Ym (d:=false) (Zb (Za 1 rfl rfl) ev_none (is_pl rfl)) (fun q=>by cases q) fun o_=>Zg fun h₂ H2=>?_
 refine Zz (Yl H2 (Xm (by rfl) n_index) k_index (Zq H2 (Za 1 rfl rfl) (Zi (ev_s.runS H2 fun tw=>Zd ⟨H2.kin,Zh (index_ok (hA'.mono (by decide)) H2 (by decide) (by decide)) ?_ fun o_ o_ q=>q⟩))))
 rintro o_ h₃ ⟨⟨t2,rfl⟩,H3⟩
 refine Zp 1 rfl rfl H3 fun h4 H4=>?_
 refine Yj (Xd H4 (Za 0 rfl rfl) I' D' mk_check (by kernel_rfl) (Zh (check_ok (hA'.mono (by decide)) H4 I' D') ?_ fun o_ o_ q=>q))
 rintro o_ h5 ⟨rfl,H5⟩
 refine (?_ : SB c _ _ _ _ _ _ _ _ _ _) h5 H5
 refine Zs 2 rfl rfl (Z0 (Za 0 rfl rfl) I' D' gk_pos look_pos) ?_
 rintro o_ rfl
 refine Zs 3 rfl rfl (ev_lenS (Zr (by rfl) Uf boot_len) ((Z0 (Za 0 rfl rfl) I' D' M2 Up : EV c _ _ _ _ _ _ _ _ _).mono fun v e=>⟨tb,e⟩) (by exact q1 ‹_› (by decide))) ?_
 rintro o_ ⟨t3,rfl⟩
 by_cases hlt : p < s.length
 ·refine Ym (d:=false) ((Zb (Zj 2 rfl rfl) (Zj 3 rfl rfl) Md).cast (by simp;assumption)) (fun q=>by cases q) fun o_=>Zg fun h6 H6=>?_
  refine (?_ : SB c _ _ _ _ _ _ _ _ _ _) h6 H6
  refine sb_ifJ (fun h'=>∃ t4,Led c (callEnv fdRD L 681) (subB g h env ns vs as) (psRD ++ rsRD) [some (.ref x),some (.int 1 t2),some (.int p tp),some (.int ((p + 1 : Nat) : Int) t4)] as (os.set j (atS (ioA (.str nlS tn) (.str s tb) (.int p tp)))) h') (d:=decide ((p : Int) + 1 < s.length)) ((Ys (Zb (Zj 1 rfl rfl) ev_i Md) (fun o_=>Zb (Ji (Zj 2 rfl rfl) (Zj 1 rfl rfl)) (Zj 3 rfl rfl) T0)).cast (by simp)) (fun hd=>?_) (fun hd=>?_) ?_
  ·refine Zs 3 rfl rfl (Ji (Zj 2 rfl rfl) (Zj 1 rfl rfl)) ?_
   rintro o_ ⟨t4,rfl⟩
   exact Zg fun h7 H7=>⟨rfl,t4,H7⟩
  ·have hd':=of_decide_eq_false hd
   have e : s.length=p + 1:=Nat.le_antisymm (Int.ofNat_le.mp (Int.not_lt.mp hd')) hlt
   exact Zg fun h7 H7=>⟨rfl,t3,by rw[e] at H7;exact H7⟩
  ·rintro h7 ⟨t4,H7⟩
   refine (?_ : SB c _ _ _ _ _ _ _ _ _ _) h7 H7
   refine V8 (j:=j) (Za 3 rfl rfl) (Za 0 rfl rfl) I' ha og sk_pos (by simp) ?_
   rintro o_ rfl h8 H8
   rw[List.set_set,lput_pos] at H8
   refine (?_ : SB c _ _ _ _ _ _ _ _ _ _) h8 H8
   refine J8 fun h9 H9=>w_sliceS H9 ((Z0 (Za 0 rfl rfl) I' D' M2 Up : EV c _ _ _ _ _ _ _ _ _).mono fun v e=>⟨tb,e⟩) (Zj (n:=(p : Int)) 2 rfl rfl) (Zj 3 rfl rfl) (by exact q1 ‹_› (by decide)) (by with_reducible exact Nat.le_add_right _ _) (by assumption) fun t5 h10 H10=>⟨⟨t5,?_⟩,?_⟩
   ·unfold chr;rw[Nat.add_sub_cancel_left];rfl
   ·have:=(H.leave₀ H10).closeIO ha og
    rw[List.set_set] at this
    unfold nxt;rw[if_pos hlt]
    exact this
 ·refine Ym (d:=true) ((Zb (Zj 2 rfl rfl) (Zj 3 rfl rfl) Md).cast (by simp;exact r8 ‹_›)) (fun o_=>?_) (fun q=>by cases q)
  refine Y6 ev_s fun h6 H6 v ⟨t4,hv⟩=>⟨⟨t4,?_⟩,?_⟩
  ·have : chr s p=Str.ofString "":=by
    unfold chr
    rw[List.drop_eq_nil_of_le (by show s.cps.toList.length≤p;rw[Array.length_toList];show s.length≤p;exact r8 ‹_›)]
    rfl
   rw[this];exact hv
  ·have:=(H.leave₀ H6).closeIO ha og
   rw[List.set_set] at this
   unfold nxt;rw[if_neg hlt]
   exact this
theorem gives_find4 (x y : Str) (i j : Int) (t u v w : Tok) : Gives (Builtin.«str.find» ⟨[.str x t,.str y u,.int i v,.int j w],[]⟩) (.int (match Builtin.Str.occurrences x y (fromIndex x.length i) (min (fromIndex x.length j) x.length) 1 with | k :: _=>(k : Int) | []=>-1)):=by
 show Gives (match Builtin.Str.occurrences x y (fromIndex x.length i) (min (fromIndex x.length j) x.length) 1 with | k :: _=>retInt k | []=>(do rule "str.find.not-found";retInt (-1))) _
 cases Builtin.Str.occurrences x y (fromIndex x.length i) (min (fromIndex x.length j) x.length) 1 with
 | nil=>exact .rule (.of_eq rfl)
 | cons k _=>exact .of_eq rfl
theorem occ_free {x : Str}{n lo hi lim : Nat}(h : n ∉ x.cps.toList) (hh : hi≤x.length) : Builtin.Str.occurrences x ⟨#[n]⟩ lo hi lim=[]:=by
 cases e : Builtin.Str.occurrences x ⟨#[n]⟩ lo hi lim with
 | nil=>rfl
 | cons k r =>
  obtain⟨h1,h2⟩:=PySem.StrLaws.occ_spec x ⟨#[n]⟩ lo hi lim k (by rw[e];exact .head _)
  exact absurd (Nd ((PySem.StrLaws.subAt_one x n k).mp ⟨S7 h1 hh,h2⟩)) h
noncomputable abbrev fdLN : FuncData:=Xl (me 21 5) "StringIO.__line" .none (.str "io" 512) (.ref 532)
noncomputable abbrev psLN : List PySem.Str:=["self","limit"]
noncomputable abbrev rsLN : List PySem.Str:=["start","stop","cut","newline","i","j","end"]
theorem F_ln : FnK 533 fdLN (fnB (me 21 5)) (psLN ++ rsLN):=⟨fun P=>by kernel_rfl,fun P=>by kernel_rfl,rfl,by kernel_rfl,dk,dk,dk,rfl,rfl,by kernel_rfl,by kernel_rfl⟩
theorem B_ln (a b : Value) : bindArgs fdLN ⟨[a,b],[]⟩=pure (psLN.zip [a,b]):=by kernel_rfl
noncomputable abbrev fdRL : FuncData:=Xl (me 21 26) "StringIO.readline" (.ref 682) (.str "io" 512) (.ref 688)
noncomputable abbrev psRL : List PySem.Str:=["self","size"]
theorem F_rl : FnK 689 fdRL (fnB (me 21 26)) (psRL ++ []):=⟨fun P=>by kernel_rfl,fun P=>by kernel_rfl,rfl,by kernel_rfl,dk,dk,dk,rfl,rfl,by kernel_rfl,by kernel_rfl⟩
theorem B_rl {s : Shared}{P : Params}(X : (K P).In s.heap) (a : Value) : BindsTo s fdRL ⟨[a],[]⟩ (psRL.zip [a,.int (-1) 1101]):=
 binds_K (K:=K P) (T:=682) (o:=o682 P) (items:=#[.int (-1) 1101]) (n:=0) X rfl (by kernel_rfl) rfl rfl rfl
theorem ev_ifF {t a b : Expr}{p : Pos}{R : Value→Prop}(x : TV c A env t g ns vs as os false) (y : EV c A env b g ns vs as os R) : EV c A env (.IfExp t a b p) g ns vs as os R:=fun h H k =>
 wpAny_IfExp (wpAny_mono (x h H k) (fun d s1 q=>by rw[q.1.eq,q.2.1,q.2.2];exact y h H _) fun o_ o_ q=>q)
theorem ev_ifT {t a b : Expr}{p : Pos}{R : Value→Prop}(x : TV c A env t g ns vs as os true) (y : EV c A env a g ns vs as os R) : EV c A env (.IfExp t a b p) g ns vs as os R:=fun h H k =>
 wpAny_IfExp (wpAny_mono (x h H k) (fun d s1 q=>by rw[q.1.eq,q.2.1,q.2.2];exact y h H _) fun o_ o_ q=>q)
theorem line_ok {x dx : Addr}{s : Str}{p j : Nat}{t : Tok}(hA : Rm A 3) (H : Led c env g ns vs as os h) (I : ∀ sp,Loc g as (os.set j sp) x (.ob (Z9 735 dx))) (ha : as[j]?=some dx) (ho : os[j]?=some (ioS s p)) (hz : s.length < 90000) (hp : p < s.length) (hn : 10 ∉ s.cps.toList) :
 W c A (call (.ref 533) [.ref x,.int (-1) t]) (fun v h'=>Led c env g ns vs as (os.set j (ioS s s.length)) h') noX h:=by
 obtain⟨tn,tb,tp,H⟩:=H.openIO ha ho
 have jl:=Zn ho
 refine Us H F_ln hA.depth (B_ln _ _) rfl dk fun L h₁ H1=>?_
 have og : ∀ {a : Sp},(os.set j a)[j]?=some a:=fun {a}=>List.getElem?_set_self jl
 have I' : ∀ {sp : Sp},Loc (subB g h env ns vs as) as (os.set j sp) x (.ob (Z9 735 dx)):=fun {sp}=>(I sp).monoG H.stay
 have D' : ∀ {q : Value},Loc (subB g h env ns vs as) as (os.set j (atS (ioA (.str nlS tn) (.str s tb) q))) dx (atS (ioA (.str nlS tn) (.str s tb) q)):=.ld j ha og
 refine (?_ : SB c _ _ _ _ _ _ _ _ _ _) h₁ H1
 refine Zs 2 rfl rfl (Z0 (Za 0 rfl rfl) I' D' gk_pos look_pos) ?_
 rintro o_ rfl
 refine Zs 3 rfl rfl (ev_lenS (Zr (by rfl) Uf boot_len) ((Z0 (Za 0 rfl rfl) I' D' M2 Up : EV c _ _ _ _ _ _ _ _ _).mono fun v e=>⟨tb,e⟩) (by exact q1 ‹_› (by decide))) ?_
 rintro o_ ⟨t3,rfl⟩
 refine Ym (d:=false) ((Zb (Zj 2 rfl rfl) (Zj 3 rfl rfl) Md).cast (by simp;assumption)) (fun q=>by cases q) fun o_=>Zg fun h₂ H2=>?_
 refine (?_ : SB c _ _ _ _ _ _ _ _ _ _) h₂ H2
 refine Zs 4 rfl rfl V4 ?_
 rintro o_ rfl
 refine Ym (d:=false) ((Ys (d:=false) (e:=false) ((Zb (Zj 1 rfl rfl) ev_i Md).cast (by decide)) (fun q=>by cases q)).cast rfl) (fun q=>by cases q) fun o_=>Zg fun h₃ H3=>?_
 refine (?_ : SB c _ _ _ _ _ _ _ _ _ _) h₃ H3
 refine Zs 5 rfl rfl (Z0 (Za 0 rfl rfl) I' D' gk_nl look_nl) ?_
 rintro o_ rfl
 refine Ym (d:=false) ((Zb (Zk 5 rfl rfl) ev_s Yu).cast dk) (fun q=>by cases q) fun o_=>?_
 refine Zs 8 rfl rfl (ev_ifF (Zb (Zk 5 rfl rfl) ev_none X6) (Za 5 rfl rfl)) ?_
 rintro o_ rfl
 refine Ym (d:=false) (Xq (Ye (d:=false) (e:=false) (Yk (Za 4 rfl rfl) tr_bb) (fun q=>by cases q))) (fun q=>by cases q) fun o_=>Zg fun h4 H4=>?_
 refine Zz (Xa (v:=.str s tb) H4 (Z0 (Za 0 rfl rfl) I' D' M2 Up) PySem.F.plainAttrs_str PySem.F.slot_str_find PySem.F.type_str_find (fun k=>typeIs_str _ _ _) (fun b hb=>by cases hb) (Zq H4 (Za 8 rfl rfl) (Zq H4 (Za 2 rfl rfl) (Zq H4 (Za 3 rfl rfl) (Zd fun kk=>call_gives (s:=stt c h4 kk) PySem.F.slot_str_find (typeIs_str _ _ _) PySem.F.entry_str_find (PySem.F.args_str_find_4 _ _ _ _) (gives_find4 s nlS p s.length tb tn tp t3) ?_)))))
 have hocc : Builtin.Str.occurrences s nlS (fromIndex s.length p) (min (fromIndex s.length s.length) s.length) 1=[]:=by
  rw[show nlS=⟨#[10]⟩ from dk]
  exact occ_free hn (Nat.min_le_right ..)
 rw[hocc]
 refine⟨⟨rfl,rfl,rfl⟩,?_⟩
 refine Zp 6 rfl rfl H4 fun h5 H5=>?_
 refine (?_ : SB c _ _ _ _ _ _ _ _ _ _) h5 H5
 refine Ym (d:=false) ((Zb (Zj 6 rfl rfl) ev_i Md).cast (by decide)) (fun q=>by cases q) fun o_=>Zg fun h6 H6=>Zg (fun h7 H7=>?_) h6 H6
 refine (?_ : SB c _ _ _ _ _ _ _ _ _ _) h7 H7
 refine V8 (j:=j) (Za 3 rfl rfl) (Za 0 rfl rfl) I' ha og sk_pos (by simp) ?_
 rintro o_ rfl h8 H8
 rw[List.set_set,lput_pos] at H8
 refine (?_ : SB c _ _ _ _ _ _ _ _ _ _) h8 H8
 refine J8 fun h9 H9=>w_sliceS H9 ((Z0 (Za 0 rfl rfl) I' D' M2 Up : EV c _ _ _ _ _ _ _ _ _).mono fun v e=>⟨tb,e⟩) (Zj (n:=(p : Int)) 2 rfl rfl) (Zj 3 rfl rfl) (by exact q1 ‹_› (by decide)) (by exact r7 ‹_›) (by exact Nat.le_refl _) fun t5 h10 H10=>?_
 have:=(H.leave₀ H10).closeIO ha og
 rwa [List.set_set] at this
theorem readline_ok {x dx : Addr}{s : Str}{p j : Nat}(hA : Rm A 5) (H : Led c env g ns vs as os h) (I : ∀ sp,Loc g as (os.set j sp) x (.ob (Z9 735 dx))) (ha : as[j]?=some dx) (ho : os[j]?=some (ioS s p)) (hz : s.length < 90000) (hp : p < s.length) (hn : 10 ∉ s.cps.toList) :
 W c A (call (.ref 689) [.ref x]) (fun v h'=>Led c env g ns vs as (os.set j (ioS s s.length)) h') noX h:=by
 have jl:=Zn ho
 refine Xy (S4 (ps:=psRL) (rs:=[]) (zs:=[.ref x,.int (-1) 1101]) H F_rl hA.depth (fun k=>B_rl (P:=c.w.params) H.kin _) rfl dk fun L h₁ H1=>?_)
 have hA':=hA.deep (callEnv fdRL L 689)
 have I' : ∀ sp,Loc (subB g h env ns vs as) as (os.set j sp) x (.ob (Z9 735 dx)):=fun sp=>(I sp).monoG H.stay
 have I0 : Loc (subB g h env ns vs as) as os x (.ob (Z9 735 dx)):=by have:=I' (ioS s p);rwa [Xh ho] at this
 refine (?_ : SB c _ _ _ _ _ _ _ _ _ _) h₁ H1
 refine Ym (d:=false) (Zb (Za 1 rfl rfl) ev_none (is_pl rfl)) (fun q=>by cases q) fun o_=>Zg fun h₂ H2=>?_
 refine Zz (Yl H2 (Xm (by rfl) n_index) k_index (Zq H2 (Za 1 rfl rfl) (Zi (ev_s.runS H2 fun tw=>Zd ⟨H2.kin,Zh (index_ok (hA'.mono (by decide)) H2 (by decide) (by decide)) ?_ fun o_ o_ q=>q⟩))))
 rintro o_ h₃ ⟨⟨t2,rfl⟩,H3⟩
 refine Zp 1 rfl rfl H3 fun h4 H4=>?_
 obtain⟨tn,tb,tp,Ho⟩:=H4.openIO ha ho
 have og : ∀ {a : Sp},(os.set j a)[j]?=some a:=fun {a}=>List.getElem?_set_self jl
 refine Yj (Xd Ho (Za 0 rfl rfl) (I' _) (.ld j ha og) mk_check (by kernel_rfl) (Zh (check_ok (hA'.mono (by decide)) Ho (I' _) (.ld j ha og)) ?_ fun o_ o_ q=>q))
 rintro o_ h5 ⟨rfl,H5⟩
 have H6:=H5.closeIO ha og
 rw[List.set_set,Xh ho] at H6
 refine (?_ : SB c _ _ _ _ _ _ _ _ _ _) h5 H5
 refine J8 fun h7 H7=>Uw H7 (Za 0 rfl rfl) (I' _) (.ld j ha og) mk_line (by kernel_rfl) (Zq H7 (Za 1 rfl rfl) (Zd ⟨H7.kin,?_⟩))
 have H8:=H7.closeIO ha og
 rw[List.set_set,Xh ho] at H8
 refine Zh (line_ok (hA'.mono (by decide)) H8 I' ha ho hz hp hn) ?_ fun o_ o_ q=>q
 intro v h9 H9
 exact H.leave₀ H9
noncomputable def wcS : PySem.Str:=Str.ofString "abcdfeghijklmnopqrstuvwxyzABCDEFGHIJKLMNOPQRSTUVWXYZ0123456789_" ++ Str.ofString "ßàáâãäåæçèéêëìíîïðñòóôõöøùúûüýþÿÀÁÂÃÄÅÆÇÈÉÊËÌÍÎÏÐÑÒÓÔÕÖØÙÚÛÜÝÞ"
noncomputable abbrev shA (T : Nat→Tok) (io d1 d2 : Addr) (st ln tk : Value) : List (Str × Value):=
 [(Str.ofString "instream",.ref io),(Str.ofString "infile",.none),(Str.ofString "posix",.bool true),(Str.ofString "eof",.none),(Str.ofString "commenters",.str (Str.ofString "#") (T 0)),
  (Str.ofString "wordchars",.str wcS (T 1)),(Str.ofString "whitespace",.str (Str.ofString " \t\r\n") (T 2)),(Str.ofString "whitespace_split",.bool true),(Str.ofString "quotes",.str (Str.ofString "'\"") (T 3)),(Str.ofString "escape",.str (Str.ofString "\\") (T 4)),
  (Str.ofString "escapedquotes",.str (Str.ofString "\"") (T 5)),(Str.ofString "state",st),(Str.ofString "pushback",.ref d1),(Str.ofString "lineno",ln),(Str.ofString "debug",.int 0 (T 6)),(Str.ofString "token",tk),(Str.ofString "filestack",.ref d2),(Str.ofString "source",.none),(Str.ofString "_punctuation_chars",.str (Str.ofString "") (T 7))]
section
variable {T : Nat → Tok} {io d1 d2 : Addr} {st ln tk v : Value}
theorem lk_in : (shA T io d1 d2 st ln tk).lookup (Str.ofString "instream")=some (.ref io):=by kernel_rfl
theorem lk_px : (shA T io d1 d2 st ln tk).lookup (Str.ofString "posix")=some (.bool true):=by kernel_rfl
theorem lk_eof : (shA T io d1 d2 st ln tk).lookup (Str.ofString "eof")=some .none:=by kernel_rfl
theorem lk_cm : (shA T io d1 d2 st ln tk).lookup (Str.ofString "commenters")=some (.str (Str.ofString "#") (T 0)):=by kernel_rfl
theorem lk_wc : (shA T io d1 d2 st ln tk).lookup (Str.ofString "wordchars")=some (.str wcS (T 1)):=by kernel_rfl
theorem lk_ws : (shA T io d1 d2 st ln tk).lookup (Str.ofString "whitespace")=some (.str (Str.ofString " \t\r\n") (T 2)):=by kernel_rfl
theorem lk_qu : (shA T io d1 d2 st ln tk).lookup (Str.ofString "quotes")=some (.str (Str.ofString "'\"") (T 3)):=by kernel_rfl
theorem lk_es : (shA T io d1 d2 st ln tk).lookup (Str.ofString "escape")=some (.str (Str.ofString "\\") (T 4)):=by kernel_rfl
theorem lk_eq : (shA T io d1 d2 st ln tk).lookup (Str.ofString "escapedquotes")=some (.str (Str.ofString "\"") (T 5)):=by kernel_rfl
theorem lk_st : (shA T io d1 d2 st ln tk).lookup (Str.ofString "state")=some st:=by kernel_rfl
theorem lk_pb : (shA T io d1 d2 st ln tk).lookup (Str.ofString "pushback")=some (.ref d1):=by kernel_rfl
theorem lk_ln : (shA T io d1 d2 st ln tk).lookup (Str.ofString "lineno")=some ln:=by kernel_rfl
theorem lk_db : (shA T io d1 d2 st ln tk).lookup (Str.ofString "debug")=some (.int 0 (T 6)):=by kernel_rfl
theorem lk_tk : (shA T io d1 d2 st ln tk).lookup (Str.ofString "token")=some tk:=by kernel_rfl
theorem lk_fs : (shA T io d1 d2 st ln tk).lookup (Str.ofString "filestack")=some (.ref d2):=by kernel_rfl
theorem lk_so : (shA T io d1 d2 st ln tk).lookup (Str.ofString "source")=some .none:=by kernel_rfl
theorem lk_pc : (shA T io d1 d2 st ln tk).lookup (Str.ofString "_punctuation_chars")=some (.str (Str.ofString "") (T 7)):=by kernel_rfl
theorem lp_st : Xx (Str.ofString "state") v (shA T io d1 d2 st ln tk)=shA T io d1 d2 v ln tk:=by kernel_rfl
theorem lp_ln : Xx (Str.ofString "lineno") v (shA T io d1 d2 st ln tk)=shA T io d1 d2 st v tk:=by kernel_rfl
theorem lp_tk : Xx (Str.ofString "token") v (shA T io d1 d2 st ln tk)=shA T io d1 d2 st ln v:=by kernel_rfl
end
theorem gk_in : Jo 870 "instream":=fun P=>⟨by kernel_rfl,by kernel_rfl,none,by kernel_rfl,by kernel_rfl⟩
theorem gk_px : Jo 870 "posix":=fun P=>⟨by kernel_rfl,by kernel_rfl,none,by kernel_rfl,by kernel_rfl⟩
theorem gk_eof : Jo 870 "eof":=fun P=>⟨by kernel_rfl,by kernel_rfl,none,by kernel_rfl,by kernel_rfl⟩
theorem gk_cm : Jo 870 "commenters":=fun P=>⟨by kernel_rfl,by kernel_rfl,none,by kernel_rfl,by kernel_rfl⟩
theorem gk_wc : Jo 870 "wordchars":=fun P=>⟨by kernel_rfl,by kernel_rfl,none,by kernel_rfl,by kernel_rfl⟩
theorem gk_ws : Jo 870 "whitespace":=fun P=>⟨by kernel_rfl,by kernel_rfl,none,by kernel_rfl,by kernel_rfl⟩
theorem gk_qu : Jo 870 "quotes":=fun P=>⟨by kernel_rfl,by kernel_rfl,none,by kernel_rfl,by kernel_rfl⟩
theorem gk_es : Jo 870 "escape":=fun P=>⟨by kernel_rfl,by kernel_rfl,none,by kernel_rfl,by kernel_rfl⟩
theorem gk_eq : Jo 870 "escapedquotes":=fun P=>⟨by kernel_rfl,by kernel_rfl,none,by kernel_rfl,by kernel_rfl⟩
theorem gk_st : Jo 870 "state":=fun P=>⟨by kernel_rfl,by kernel_rfl,none,by kernel_rfl,by kernel_rfl⟩
theorem gk_pb : Jo 870 "pushback":=fun P=>⟨by kernel_rfl,by kernel_rfl,none,by kernel_rfl,by kernel_rfl⟩
theorem gk_ln : Jo 870 "lineno":=fun P=>⟨by kernel_rfl,by kernel_rfl,none,by kernel_rfl,by kernel_rfl⟩
theorem gk_db : Jo 870 "debug":=fun P=>⟨by kernel_rfl,by kernel_rfl,none,by kernel_rfl,by kernel_rfl⟩
theorem gk_tk : Jo 870 "token":=fun P=>⟨by kernel_rfl,by kernel_rfl,none,by kernel_rfl,by kernel_rfl⟩
theorem gk_fs : Jo 870 "filestack":=fun P=>⟨by kernel_rfl,by kernel_rfl,none,by kernel_rfl,by kernel_rfl⟩
theorem gk_so : Jo 870 "source":=fun P=>⟨by kernel_rfl,by kernel_rfl,none,by kernel_rfl,by kernel_rfl⟩
theorem gk_pc : Jo 870 "_punctuation_chars":=fun P=>⟨by kernel_rfl,by kernel_rfl,none,by kernel_rfl,by kernel_rfl⟩
theorem sk_st : X5 870 "state":=fun P=>⟨by kernel_rfl,by kernel_rfl,by kernel_rfl,by kernel_rfl⟩
theorem sk_ln : X5 870 "lineno":=fun P=>⟨by kernel_rfl,by kernel_rfl,by kernel_rfl,by kernel_rfl⟩
theorem sk_tk : X5 870 "token":=fun P=>⟨by kernel_rfl,by kernel_rfl,by kernel_rfl,by kernel_rfl⟩
theorem mk_gt : Jb 870 "get_token" 831:=fun P=>⟨by kernel_rfl,by kernel_rfl,by kernel_rfl,by kernel_rfl⟩
theorem mk_rt : Jb 870 "read_token" 838:=fun P=>⟨by kernel_rfl,by kernel_rfl,by kernel_rfl,by kernel_rfl⟩
theorem pp_all (P : Params) : plainGet (K P) 870 "punctuation_chars"=true∧findIn (K P) (.ref 870) "punctuation_chars"=some (some (.ref 802))∧specialIn (K P) (.ref 802) "__get__"=some (some (.builtin "property.__get__"))∧takesIn (K P) (.ref 802)=some true∧recIn (K P) 802 "property"=some [.ref 801,.none,.none,.none,.str "punctuation_chars" 1260,.bool false]∧isClsIn (K P) 870=true:=⟨by kernel_rfl,by kernel_rfl,by kernel_rfl,by kernel_rfl,by kernel_rfl,by kernel_rfl⟩
noncomputable abbrev fdPC : FuncData:=Xl (me 30 1) "shlex.punctuation_chars" .none (.str "cpy313.shlex" 1227) (.ref 800)
noncomputable abbrev psPC : List PySem.Str:=["self"]
theorem F_pc : FnK 801 fdPC (fnB (me 30 1)) (psPC ++ []):=⟨fun P=>by kernel_rfl,fun P=>by kernel_rfl,rfl,by kernel_rfl,dk,dk,dk,rfl,rfl,by kernel_rfl,by kernel_rfl⟩
theorem B_pc (a : Value) : bindArgs fdPC ⟨[a],[]⟩=pure (psPC.zip [a]):=by kernel_rfl
theorem c_prop {x dx : Addr}{T : Nat→Tok}{io d1 d2 : Addr}{st ln tk : Value}{b : Bool}{Q : Value→Heap→Prop}(hA : Rm A 3) (H : Led c env g ns vs as os h) (I : Loc g as os x (.ob (Z9 870 dx))) (D : Loc g as os dx (atS (shA T io d1 d2 st ln tk)))
 (q : ∀ h',Led c env g ns vs as os h'→Q (.str (Str.ofString "") (T 7)) h') : W c A (getAttr (.ref x) "punctuation_chars" b) Q X h:=fun kk=>by
 obtain⟨k1,k2,k3,k4,k5,k6⟩:=pp_all c.w.params
 obtain⟨es',n,i,eS,o_⟩:=Uv H I D
 have hf : findObj (K c.w.params) 870 (some (dictOf es' n)) "punctuation_chars"=some (.bind (.builtin "property.__get__") (.ref 802)):=by
  obtain⟨cd,hcd⟩:=Option.isSome_iff_exists.mp k6
  exact Option.bind_eq_some_iff.mpr ⟨cd,hcd,Option.bind_eq_some_iff.mpr ⟨_,k2,Option.bind_eq_some_iff.mpr ⟨_,k3,Option.bind_eq_some_iff.mpr ⟨_,k4,rfl⟩⟩⟩⟩
 refine get_bind (s:=stt c h kk) H.kin i (plainGet_of k1).1 hf (plainGet_of k1).2 (wpAny_call (prop_get (s:={ stt c h kk with toks:=kk + 1 }) H.kin k5 ?_))
 refine codeAny_mono (S4 (ps:=psPC) (rs:=[]) (zs:=[.ref x]) (X:=noX) (Q:=fun v h'=>v=.str (Str.ofString "") (T 7)∧Led c env g ns vs as os h') H F_pc (A:=A.in1) (show A.in1.depth < recursionLimit from hA.depth) (fun k=>.of_eq (B_pc _)) rfl dk (fun L h₁ H1=>?_) (kk + 1)) fun r s' z=>?_
 ·refine (?_ : SB c _ _ _ _ _ _ _ _ _ _) h₁ H1
  exact Y6 (Z0 (Za 0 rfl rfl) (I.sub H) (D.sub H) gk_pc lk_pc) fun h₂ H2 v hv=>⟨hv,H.leave₀ H2⟩
 ·cases r with
  | error e=>exact z.2.elim
  | ok f =>
   cases f with
   | ret v =>
    obtain⟨o,rfl,H'⟩:=z
    rw[o.eq]
    exact handed_on rfl ⟨⟨rfl,rfl,rfl⟩,q _ H'⟩
   | _=>exact z.2.elim
noncomputable def ch (n : Nat) : Str:=⟨#[n]⟩
theorem in1 (n : Nat) (x : Str) : inS (ch n) x=decide (n∈x.cps.toList):=PySem.StrLaws.found_one x n
theorem Mw {Q : Flow→Heap→Prop}(q : Q .next h) : W c A (execs [] env) Q X h:=fun k=>wpAny_execs_nil ⟨⟨rfl,rfl,rfl⟩,q⟩
theorem Zf {t : Expr}{b o : List Stmt}{p : Pos}{Q : Flow→Heap→Prop}(x : TV c A env t g ns vs as os false) (z : SB c A env o g ns vs as os Q X) : SB c A env [.If t b o p] g ns vs as os Q X:=
 Ym x (fun q=>by cases q) fun o_ h H=>Zh (z h H) (fun f h' q=>by cases f <;> first | exact Mw q | exact q) fun o_ o_ q=>q
theorem Z8 {t : Expr}{b o : List Stmt}{p : Pos}{Q : Flow→Heap→Prop}(x : TV c A env t g ns vs as os true) (z : SB c A env b g ns vs as os Q X) : SB c A env [.If t b o p] g ns vs as os Q X:=
 Ym x (fun o_ h H=>Zh (z h H) (fun f h' q=>by cases f <;> first | exact Mw q | exact q) fun o_ o_ q=>q) fun q=>by cases q
theorem Z7 {t : Expr}{b rest : List Stmt}{p : Pos}{Q : Flow→Heap→Prop}(x : TV c A env t g ns vs as os false) (z : SB c A env rest g ns vs as os Q X) : SB c A env (.If t b [] p :: rest) g ns vs as os Q X:=
 Ym x (fun q=>by cases q) fun o_=>Zg fun h H=>z h H
theorem w_ifF {t : Expr}{b o rest : List Stmt}{p : Pos}{Q : Flow→Heap→Prop}(x : W c A (isTrue t env (eval t env)) (fun d h'=>d=false∧W c A (execs o env) (Ml c A env rest Q X) X h') X h) : W c A (execs (.If t b o p :: rest) env) Q X h:=
 Uq (Zh x (fun d h' q=>by obtain⟨rfl,q⟩:=q;simp only[Bool.false_eq_true,if_false];exact q) fun o_ o_ q=>q)
theorem wt_andF {x : Expr}{es : List Expr}{p : Pos}{Q : Bool→Heap→Prop}(a : W c A (isTrue x env (eval x env)) (fun d h'=>d=false∧Q false h') X h) : W c A (isTrue (.BoolOp .And (x :: es) p) env (eval (.BoolOp .And (x :: es) p) env)) Q X h:=fun k =>
 wpAny_isTrue_BoolOp (wpAny_allTrue_And_cons (wpAny_mono (a k) (fun d s q=>by obtain⟨q1,rfl,q2⟩:=q;exact⟨q1,q2⟩) fun o_ o_ q=>q))
theorem wt_val {e : Expr}{Q : Bool→Heap→Prop}(x : W c A (eval e env) (fun v h'=>W c A (truthy v) Q X h') X h) (he : autoParam (isTrue e env (eval e env)=(do let v ← eval e env;standAt e.pos;holding [v] (truthy v))) zR) : W c A (isTrue e env (eval e env)) Q X h:=fun k =>
 wpAny_isTrue_value (wpAny_mono (x k) (fun v s q=>Zy q.2 q.1) fun o_ o_ q=>q) he
theorem Mi {x y z : Str}{t u v : Tok}{a : Addr}{Q : Value→Heap→Prop}(ha : At h a (.tu [.str y u,.str z v])) (q : Q (.bool (y == x || z == x)) h) : W c A (compareOp .In (.str x t) (.ref a)) Q X h:=fun k=>by
 obtain⟨o,e,e1,n,e2⟩:=ha
 refine PySem.SeqAt.in_tupleAt (s:=stt c h k) (items:=#[.str y u,.str z v]) (fun w=>match w with | .str y _=>y == x | _=>false) ⟨o,e,e1,n,e2⟩ (fun w hw=>?_) ⟨⟨rfl,rfl,rfl⟩,by show Q _ h;simpa using q⟩
 simp only[Array.mem_def,List.mem_cons,List.not_mem_nil,or_false] at hw
 rcases hw with rfl | rfl <;> exact PySem.SeqAt.EqAt.str_str _ _ _ _
structure LexC (g : Bas) (x dx io di d1 d2 : Addr) : Prop where
 I : At g.hp x (.ob (Z9 870 dx))
 J : At g.hp io (.ob (Z9 735 di))
 P : At g.hp d1 dqS
 F : At g.hp d2 dqS
theorem LexC.mono {g g' : Bas}{x dx io di d1 d2 : Addr}(C : LexC g x dx io di d1 d2) (k : g.hp.StaysIn g'.hp) : LexC g' x dx io di d1 d2:=⟨C.I.stay k,C.J.stay k,C.P.stay k,C.F.stay k⟩
structure Lx (g : Bas) (ns : List Str) (vs : List (Option Value)) (as : List Addr) (os : List Sp) (x dx io di d1 d2 : Addr) (k : Nat) (T : Nat→Tok) (st ln tk : Value) : Prop where
 C : LexC g x dx io di d1 d2
 hk : as[k]?=some dx
 ho : os[k]?=some (atS (shA T io d1 d2 st ln tk))
 hs : ns[0]?=some (Str.ofString "self")
 hx : vs[0]?=some (some (.ref x))
section
variable {x dx io di d1 d2 : Addr} {k : Nat} {T : Nat → Tok} {st ln tk : Value} {xp pos : Pos}
theorem Lx.hD (L : Lx g ns vs as os x dx io di d1 d2 k T st ln tk) : Loc g as os dx (atS (shA T io d1 d2 st ln tk)):=.ld k L.hk L.ho
theorem Lx.I (L : Lx g ns vs as os x dx io di d1 d2 k T st ln tk) : Loc g as os x (.ob (Z9 870 dx)):=.fz L.C.I
theorem Lx.a_in (L : Lx g ns vs as os x dx io di d1 d2 k T st ln tk) : EV c A env (.Attribute (.Name (Str.ofString "self") xp) (Str.ofString "instream") pos) g ns vs as os (·=.ref io):=Z0 (Za 0 L.hs L.hx) L.I L.hD gk_in lk_in
theorem Lx.a_px (L : Lx g ns vs as os x dx io di d1 d2 k T st ln tk) : EV c A env (.Attribute (.Name (Str.ofString "self") xp) (Str.ofString "posix") pos) g ns vs as os (·=.bool true):=Z0 (Za 0 L.hs L.hx) L.I L.hD gk_px lk_px
theorem Lx.a_eof (L : Lx g ns vs as os x dx io di d1 d2 k T st ln tk) : EV c A env (.Attribute (.Name (Str.ofString "self") xp) (Str.ofString "eof") pos) g ns vs as os (·=.none):=Z0 (Za 0 L.hs L.hx) L.I L.hD gk_eof lk_eof
theorem Lx.a_pb (L : Lx g ns vs as os x dx io di d1 d2 k T st ln tk) : EV c A env (.Attribute (.Name (Str.ofString "self") xp) (Str.ofString "pushback") pos) g ns vs as os (·=.ref d1):=Z0 (Za 0 L.hs L.hx) L.I L.hD gk_pb lk_pb
theorem Lx.a_fs (L : Lx g ns vs as os x dx io di d1 d2 k T st ln tk) : EV c A env (.Attribute (.Name (Str.ofString "self") xp) (Str.ofString "filestack") pos) g ns vs as os (·=.ref d2):=Z0 (Za 0 L.hs L.hx) L.I L.hD gk_fs lk_fs
theorem Lx.a_so (L : Lx g ns vs as os x dx io di d1 d2 k T st ln tk) : EV c A env (.Attribute (.Name (Str.ofString "self") xp) (Str.ofString "source") pos) g ns vs as os (·=.none):=Z0 (Za 0 L.hs L.hx) L.I L.hD gk_so lk_so
theorem Lx.a_cm (L : Lx g ns vs as os x dx io di d1 d2 k T st ln tk) : EV c A env (.Attribute (.Name (Str.ofString "self") xp) (Str.ofString "commenters") pos) g ns vs as os (isS (Str.ofString "#")):=(Z0 (Za 0 L.hs L.hx) L.I L.hD gk_cm lk_cm : EV c A env (.Attribute (.Name (Str.ofString "self") xp) (Str.ofString "commenters") pos) g ns vs as os _).mono fun v e=>⟨_,e⟩
theorem Lx.a_wc (L : Lx g ns vs as os x dx io di d1 d2 k T st ln tk) : EV c A env (.Attribute (.Name (Str.ofString "self") xp) (Str.ofString "wordchars") pos) g ns vs as os (isS wcS):=(Z0 (Za 0 L.hs L.hx) L.I L.hD gk_wc lk_wc : EV c A env (.Attribute (.Name (Str.ofString "self") xp) (Str.ofString "wordchars") pos) g ns vs as os _).mono fun v e=>⟨_,e⟩
theorem Lx.a_ws (L : Lx g ns vs as os x dx io di d1 d2 k T st ln tk) : EV c A env (.Attribute (.Name (Str.ofString "self") xp) (Str.ofString "whitespace") pos) g ns vs as os (isS (Str.ofString " \t\r\n")):=(Z0 (Za 0 L.hs L.hx) L.I L.hD gk_ws lk_ws : EV c A env (.Attribute (.Name (Str.ofString "self") xp) (Str.ofString "whitespace") pos) g ns vs as os _).mono fun v e=>⟨_,e⟩
theorem Lx.a_qu (L : Lx g ns vs as os x dx io di d1 d2 k T st ln tk) : EV c A env (.Attribute (.Name (Str.ofString "self") xp) (Str.ofString "quotes") pos) g ns vs as os (isS (Str.ofString "'\"")):=(Z0 (Za 0 L.hs L.hx) L.I L.hD gk_qu lk_qu : EV c A env (.Attribute (.Name (Str.ofString "self") xp) (Str.ofString "quotes") pos) g ns vs as os _).mono fun v e=>⟨_,e⟩
theorem Lx.a_es (L : Lx g ns vs as os x dx io di d1 d2 k T st ln tk) : EV c A env (.Attribute (.Name (Str.ofString "self") xp) (Str.ofString "escape") pos) g ns vs as os (isS (Str.ofString "\\")):=(Z0 (Za 0 L.hs L.hx) L.I L.hD gk_es lk_es : EV c A env (.Attribute (.Name (Str.ofString "self") xp) (Str.ofString "escape") pos) g ns vs as os _).mono fun v e=>⟨_,e⟩
theorem Lx.a_eq (L : Lx g ns vs as os x dx io di d1 d2 k T st ln tk) : EV c A env (.Attribute (.Name (Str.ofString "self") xp) (Str.ofString "escapedquotes") pos) g ns vs as os (isS (Str.ofString "\"")):=(Z0 (Za 0 L.hs L.hx) L.I L.hD gk_eq lk_eq : EV c A env (.Attribute (.Name (Str.ofString "self") xp) (Str.ofString "escapedquotes") pos) g ns vs as os _).mono fun v e=>⟨_,e⟩
theorem Lx.a_db (L : Lx g ns vs as os x dx io di d1 d2 k T st ln tk) : EV c A env (.Attribute (.Name (Str.ofString "self") xp) (Str.ofString "debug") pos) g ns vs as os (isI 0):=(Z0 (Za 0 L.hs L.hx) L.I L.hD gk_db lk_db : EV c A env (.Attribute (.Name (Str.ofString "self") xp) (Str.ofString "debug") pos) g ns vs as os _).mono fun v e=>⟨_,e⟩
theorem Lx.a_st {S : Str}{ts : Tok}(L : Lx g ns vs as os x dx io di d1 d2 k T (.str S ts) ln tk) : EV c A env (.Attribute (.Name (Str.ofString "self") xp) (Str.ofString "state") pos) g ns vs as os (isS S):=(Z0 (Za 0 L.hs L.hx) L.I L.hD gk_st lk_st : EV c A env (.Attribute (.Name (Str.ofString "self") xp) (Str.ofString "state") pos) g ns vs as os _).mono fun v e=>⟨_,e⟩
theorem Lx.a_tk {S : Str}{ts : Tok}(L : Lx g ns vs as os x dx io di d1 d2 k T st ln (.str S ts)) : EV c A env (.Attribute (.Name (Str.ofString "self") xp) (Str.ofString "token") pos) g ns vs as os (isS S):=(Z0 (Za 0 L.hs L.hx) L.I L.hD gk_tk lk_tk : EV c A env (.Attribute (.Name (Str.ofString "self") xp) (Str.ofString "token") pos) g ns vs as os _).mono fun v e=>⟨_,e⟩
theorem Lx.set_st (L : Lx g ns vs as os x dx io di d1 d2 k T st ln tk) {value : Expr}{p' p : Pos}{rest : List Stmt}{R : Value→Prop}{Q : Flow→Heap→Prop}(y : EV c A env value g ns vs as os R) (q : ∀ v,R v→SB c A env rest g ns vs as (os.set k (atS (shA T io d1 d2 v ln tk))) Q X)
 (hs : autoParam (swapsWith value (some (.Attribute (.Name (Str.ofString "self") xp) (Str.ofString "state") p')) p.line env=pure false) zR) : SB c A env (.Assign [.Attribute (.Name (Str.ofString "self") xp) (Str.ofString "state") p'] value p :: rest) g ns vs as os Q X:=
 V8 y (Za 0 L.hs L.hx) L.I L.hk L.ho sk_st (S5 (S9 rfl) (show 19 < 900 by decide)) (fun v hv=>by rw[lp_st];exact q v hv) hs
theorem Lx.set_tk (L : Lx g ns vs as os x dx io di d1 d2 k T st ln tk) {value : Expr}{p' p : Pos}{rest : List Stmt}{R : Value→Prop}{Q : Flow→Heap→Prop}(y : EV c A env value g ns vs as os R) (q : ∀ v,R v→SB c A env rest g ns vs as (os.set k (atS (shA T io d1 d2 st ln v))) Q X)
 (hs : autoParam (swapsWith value (some (.Attribute (.Name (Str.ofString "self") xp) (Str.ofString "token") p')) p.line env=pure false) zR) : SB c A env (.Assign [.Attribute (.Name (Str.ofString "self") xp) (Str.ofString "token") p'] value p :: rest) g ns vs as os Q X:=
 V8 y (Za 0 L.hs L.hx) L.I L.hk L.ho sk_tk (S5 (S9 rfl) (show 19 < 900 by decide)) (fun v hv=>by rw[lp_tk];exact q v hv) hs
theorem Lx.aug_tk {S y : Str}{ts : Tok}(L : Lx g ns vs as os x dx io di d1 d2 k T st ln (.str S ts)) {value : Expr}{p' p : Pos}{rest : List Stmt}{Q : Flow→Heap→Prop}(z : EV c A env value g ns vs as os (isS y)) (hz : S.length + y.length < 100000) (q : ∀ t,SB c A env rest g ns vs as (os.set k (atS (shA T io d1 d2 st ln (.str (S ++ y) t)))) Q X) :
 SB c A env (.AugAssign (.Attribute (.Name (Str.ofString "self") xp) (Str.ofString "token") p') .Add value p :: rest) g ns vs as os Q X:=fun h H=>by
 refine U0 ((Za 0 L.hs L.hx : EV c A env (.Name (Str.ofString "self") xp) g ns vs as os _).eq H (c_get H L.I L.hD gk_tk lk_tk rfl (z.runS H fun t1=>?_)))
 refine c_iaddS hz fun t'=>Ue H L.I L.hk L.ho sk_tk (show 19 < 900 by decide) fun h₁ H1=>?_
 rw[lp_tk] at H1
 exact q t' h₁ H1
theorem Lx.aug_ln {n m : Int}{tn : Tok}(L : Lx g ns vs as os x dx io di d1 d2 k T st (.int n tn) tk) {value : Expr}{p' p : Pos}{rest : List Stmt}{Q : Flow→Heap→Prop}(z : EV c A env value g ns vs as os (isI m)) (q : ∀ t,SB c A env rest g ns vs as (os.set k (atS (shA T io d1 d2 st (.int (n + m) t) tk))) Q X) :
 SB c A env (.AugAssign (.Attribute (.Name (Str.ofString "self") xp) (Str.ofString "lineno") p') .Add value p :: rest) g ns vs as os Q X:=fun h H=>by
 refine U0 ((Za 0 L.hs L.hx : EV c A env (.Name (Str.ofString "self") xp) g ns vs as os _).eq H (c_get H L.I L.hD gk_ln lk_ln rfl (z.runI H fun t1 kk=>?_)))
 refine PyProof.Rows.iadd_int (s:=stt c h kk) ⟨⟨rfl,rfl,rfl⟩,?_⟩
 refine Ue H L.I L.hk L.ho sk_ln (show 19 < 900 by decide) fun h₁ H1=>?_
 rw[lp_ln] at H1
 exact q _ h₁ H1
end
noncomputable def lz (os : List Sp) (j k : Nat) (a b : Sp) : List Sp:=(os.set j a).set k b
section
variable {j k : Nat} {a b a' b' : Sp}
theorem lz_j (hj : j < os.length) (hn : j≠k) : (lz os j k a b)[j]?=some a:=by
 unfold lz;rw[List.getElem?_set_ne (Ne.symm hn)];exact List.getElem?_set_self hj
theorem X7 (hk : k < os.length) : (lz os j k a b)[k]?=some b:=by
 unfold lz;exact List.getElem?_set_self (by rw[List.length_set];exact hk)
theorem Zo : (lz os j k a b).set k b'=lz os j k a b':=by unfold lz;rw[List.set_set]
theorem To (hn : j≠k) : (lz os j k a b).set j a'=lz os j k a' b:=by
 unfold lz;rw[List.set_comm b a' (Ne.symm hn),List.set_set]
end
noncomputable abbrev Yd : FuncData:=Xl (me 30 6) "shlex.read_token" .none (.str "cpy313.shlex" 1227) (.ref 837)
noncomputable abbrev psRT : List PySem.Str:=["self"]
noncomputable abbrev rsRT : List PySem.Str:=["quoted","escapedstate","nextchar","result"]
theorem F_rt : FnK 838 Yd (fnB (me 30 6)) (psRT ++ rsRT):=⟨fun P=>by kernel_rfl,fun P=>by kernel_rfl,rfl,by kernel_rfl,dk,dk,dk,rfl,rfl,by kernel_rfl,by kernel_rfl⟩
theorem B_rt (a : Value) : bindArgs Yd ⟨[a],[]⟩=pure (psRT.zip [a]):=by kernel_rfl
noncomputable def whB : List Stmt→List Stmt | _ :: _ :: .While _ b _ _ :: _=>b | _=>[]
noncomputable abbrev rtB : List Stmt:=whB (fnB (me 30 6))
structure LC where
 st : Nat
 tk : Str
 q : Bool
 e : Nat
noncomputable abbrev rtV (x : Addr) (q : Bool) (e : Value) (nc : Option Value) : List (Option Value):=[some (.ref x),some (.bool q),some e,nc,none]
structure RT (g : Bas) (as : List Addr) (os : List Sp) (j k : Nat) (x dx io di d1 d2 : Addr) (s : Str) : Prop where
 C : LexC g x dx io di d1 d2
 hj : as[j]?=some di
 hk : as[k]?=some dx
 lj : j < os.length
 lk : k < os.length
 ne : j≠k
 hz : s.length < 90000
 nl : 10 ∉ s.cps.toList
section
variable {j k : Nat} {x dx io di d1 d2 : Addr} {s : Str} {p : Nat}
theorem RT.lx (R : RT g as os j k x dx io di d1 d2 s) {T : Nat→Tok}{st ln tk e : Value}{q : Bool}{nc r : Option Value}{a : Sp} : Lx g (psRT ++ rsRT) [some (.ref x),some (.bool q),some e,nc,r] as (lz os j k a (atS (shA T io d1 d2 st ln tk))) x dx io di d1 d2 k T st ln tk:=
 ⟨R.C,R.hk,X7 R.lk,rfl,rfl⟩
noncomputable def inL (c : Cx) (env : Env) (g : Bas) (as : List Addr) (os : List Sp) (j k : Nat) (x io d1 d2 : Addr) (s : Str) (l : LC) (p : Nat) (nc : Option Value) (h : Heap) : Prop:=
 ∃ T te ts ln tn tt,Led c env g (psRT ++ rsRT) (rtV x l.q (.str (ch l.e) te) nc) as (lz os j k (ioS s p) (atS (shA T io d1 d2 (.str (ch l.st) ts) (.int ln tn) (.str l.tk tt)))) h
theorem rt_pre {l : LC}{nc : Option Value}{Q : Flow→Heap→Prop}{L : Addr}(hA : Rm A 6) (R : RT g as os j k x dx io di d1 d2 s) (hp : p < 90000) (hne : (chr s p == Str.ofString "\n")=false) (H : inL c (callEnv Yd L 838) g as os j k x io d1 d2 s l p nc h)
 (q : ∀ t h',inL c (callEnv Yd L 838) g as os j k x io d1 d2 s l (nxt s p) (some (.str (chr s p) t)) h'→W c A (execs (rtB.drop 3) (callEnv Yd L 838)) Q X h') : W c A (execs rtB (callEnv Yd L 838)) Q X h:=by
 obtain⟨T,te,ts,ln,tn,tt,H⟩:=H
 refine w_ifF (wt_andF (wt_val (Uy H (Za 0 rfl rfl) (c_prop (hA.mono (by decide)) H (.fz R.C.I) (.ld k R.hk (X7 R.lk)) fun h₁ H1=>Zh (X4 dk h₁ H1 _ ⟨_,rfl⟩) ?_ fun o_ o_ q=>q.elim))))
 rintro o_ o_ ⟨rfl,rfl⟩
 refine⟨dk,rfl,?_⟩
 obtain⟨un,ub,up,Ho⟩:=H1.openIO (j:=j) R.hj (lz_j R.lj R.ne)
 rw[To R.ne] at Ho
 refine Zz ?_
 refine Uw Ho R.lx.a_in (.fz R.C.J) (.ld j R.hj (lz_j R.lj R.ne)) mk_read (by kernel_rfl) (Zi (ev_i.run Ho fun w hw=>Zd ⟨H1.kin,?_⟩))
 obtain⟨tw,rfl⟩:=hw
 refine Zh (read1_ok (j:=j) (hA.mono (by decide)) H1 (fun sp=>.fz R.C.J) R.hj (lz_j R.lj R.ne) R.hz hp) ?_ fun o_ o_ q=>q.elim
 rintro o_ h₂ ⟨⟨t,rfl⟩,H2⟩
 rw[To R.ne] at H2
 refine Zp 3 rfl rfl H2 fun h₃ H3=>?_
 refine Mw ?_
 show W c A _ _ _ _
 refine (?_ : SB c _ _ _ _ _ _ _ _ _ _) h₃ H3
 refine Z7 ((Zb (Zk 3 rfl rfl) ev_s Yu).cast hne) ?_
 refine Z7 ((Zb R.lx.a_db ev_i Md).cast (by decide)) ?_
 intro h4 H4
 exact q t h4 ⟨_,_,_,_,_,_,H4⟩
end
theorem s_a : Str.ofString "a"=ch 97:=dk
theorem s_b : Str.ofString " "=ch 32:=dk
noncomputable def dig (n : Nat) : Bool:=decide (48≤n∧n≤57)
theorem tx1 (n : Nat) : (ch n).length=1:=rfl
theorem Uc (n : Nat) : (ch n).length < 2 ^ 60:=by rw[tx1];decide
theorem no_e (n : Nat) : inS (ch n) (Str.ofString "")=false:=by rw[in1,show (Str.ofString "").cps.toList=[] from dk];simp
theorem no_es {n : Nat}(h : n≠92) : inS (ch n) (Str.ofString "\\")=false:=by rw[in1,show (Str.ofString "\\").cps.toList=[92] from dk];simpa using h
theorem ch_eq (n m : Nat) : (ch n == ch m)=decide (n=m):=by
 by_cases e : n=m
 ·subst e;simp
 ·have : ch n≠ch m:=fun q=>e (by unfold ch at q;injection q with q;simpa using q)
  rw[decide_eq_false e];exact beq_eq_false_iff_ne.mpr this
theorem dg (P : Nat→Bool) (h : (List.range' 48 10).all P=true) {n : Nat}(d : dig n=true) : P n=true:=by
 have:=List.all_eq_true.mp h n
 unfold dig at d
 have d:=of_decide_eq_true d
 exact this (by rw[List.mem_range'];exact⟨n - 48,Nat.sub_lt_left_of_lt_add d.1 (Nat.lt_succ_of_le d.2),by rw[Nat.one_mul];exact xc d.1⟩)
section
variable {j k : Nat} {x dx io di d1 d2 : Addr} {s : Str} {p : Nat}
theorem w_if0F {t : Expr}{b o : List Stmt}{p : Pos}{Q : Flow→Heap→Prop}(x : W c A (isTrue t env (eval t env)) (fun d h'=>d=false∧W c A (execs o env) Q X h') X h) : W c A (execs [.If t b o p] env) Q X h:=
 w_ifF (Zh x (fun d h' q=>⟨q.1,Zh q.2 (fun f h' q=>by cases f <;> first | exact Mw q | exact q) fun o_ o_ q=>q⟩) fun o_ o_ q=>q)
theorem T3 {t : Expr}{b o : List Stmt}{p : Pos}{Q : Flow→Heap→Prop}(x : W c A (isTrue t env (eval t env)) (fun d h'=>d=true∧W c A (execs b env) Q X h') X h) : W c A (execs [.If t b o p] env) Q X h:=
 Uq (Zh x (fun d h' q=>by obtain⟨rfl,q⟩:=q;simp only[if_true];exact Zh q (fun f h' q=>by cases f <;> first | exact Mw q | exact q) fun o_ o_ q=>q) fun o_ o_ q=>q)
noncomputable def goQ (c : Cx) (env : Env) (g : Bas) (as : List Addr) (os : List Sp) (j k : Nat) (x io d1 d2 : Addr) (s : Str) (b : Flow) (l : LC) (p : Nat) (f : Flow) (h : Heap) : Prop:=
 f=b∧∃ nc,inL c env g as os j k x io d1 d2 s l p nc h
theorem t_q0 {l : LC}{n : Nat}{t : Tok}{L : Addr}(hA : Rm A 7) (R : RT g as os j k x dx io di d1 d2 s) (hst : l.st=32) (hn : n=39∨n=34) (H : inL c (callEnv Yd L 838) g as os j k x io d1 d2 s l p (some (.str (ch n) t)) h) :
 W c A (execs (rtB.drop 3) (callEnv Yd L 838)) (goQ c (callEnv Yd L 838) g as os j k x io d1 d2 s .next { l with st:=n } p) X h:=by
 obtain⟨T,te,ts,ln,tn,tt,H⟩:=H
 obtain⟨st,tk,qt,e⟩:=l
 dsimp only at *
 subst hst
 refine Zl ?_
 intro Q'
 refine (?_ : SB c _ _ _ _ _ _ _ _ _ _) h H
 refine Zf (Zb R.lx.a_st ev_none X6) ?_
 refine Z8 ((Zb R.lx.a_st ev_s Yu).cast dk) ?_
 refine Zf ((Yo (Yk (Zk 3 rfl rfl) (X4 (Uc _)))).cast (by rw[tx1];rfl)) ?_
 refine Zf ((Zb (Zk 3 rfl rfl) R.lx.a_ws Zv).cast (by rw[in1];rcases hn with rfl | rfl <;> exact dk)) ?_
 refine Zf ((Zb (Zk 3 rfl rfl) R.lx.a_cm Zv).cast (by rw[in1];rcases hn with rfl | rfl <;> exact dk)) ?_
 refine Zf ((Ys (d:=true) (e:=false) (Zm R.lx.a_px) (fun o_=>((Zb (Zk 3 rfl rfl) R.lx.a_es Zv).cast (by rw[in1];rcases hn with rfl | rfl <;> exact dk)))).cast rfl) ?_
 refine Zf ((Zb (Zk 3 rfl rfl) R.lx.a_wc Zv).cast (by rw[in1];rcases hn with rfl | rfl <;> exact dk)) ?_
 intro h₁ H1
 refine w_if0F (Yx ((Zk 3 rfl rfl : EV c _ _ _ _ _ _ _ _ _).runS H1 fun t1=>?_))
 refine Uy H1 (Za 0 rfl rfl) (c_prop (hA.mono (by decide)) H1 (.fz R.C.I) (.ld k R.hk (X7 R.lk)) fun h₂ H2=>Zh (Zv h₂ H2 _ _ ⟨_,rfl⟩ ⟨_,rfl⟩) ?_ fun o_ o_ q=>q.elim)
 rintro o_ o_ ⟨rfl,rfl⟩
 refine Yb ⟨no_e _,?_⟩
 refine (?_ : SB c _ _ _ _ _ _ _ _ _ _) _ H2
 refine Z8 ((Zb (Zk 3 rfl rfl) R.lx.a_qu Zv).cast (by rw[in1];rcases hn with rfl | rfl <;> exact dk)) ?_
 refine Z7 ((Yo (Zm R.lx.a_px)).cast rfl) ?_
 refine R.lx.set_st (Za 3 rfl rfl) ?_
 rintro o_ rfl
 rw[Zo]
 exact Zg fun h' H'=>⟨rfl,_,_,_,_,_,_,_,H'⟩
theorem t_d0 {l : LC}{n : Nat}{t : Tok}{L : Addr}(hA : Rm A 7) (R : RT g as os j k x dx io di d1 d2 s) (hst : l.st=32) (hn : dig n=true) (H : inL c (callEnv Yd L 838) g as os j k x io d1 d2 s l p (some (.str (ch n) t)) h) :
 W c A (execs (rtB.drop 3) (callEnv Yd L 838)) (goQ c (callEnv Yd L 838) g as os j k x io d1 d2 s .next { l with st:=97,tk:=ch n } p) X h:=by
 obtain⟨T,te,ts,ln,tn,tt,H⟩:=H
 obtain⟨st,tk,qt,e⟩:=l
 dsimp only at *
 subst hst
 refine Zl ?_
 intro Q'
 refine (?_ : SB c _ _ _ _ _ _ _ _ _ _) h H
 refine Zf (Zb R.lx.a_st ev_none X6) ?_
 refine Z8 ((Zb R.lx.a_st ev_s Yu).cast dk) ?_
 refine Zf ((Yo (Yk (Zk 3 rfl rfl) (X4 (Uc _)))).cast (by rw[tx1];rfl)) ?_
 refine Zf ((Zb (Zk 3 rfl rfl) R.lx.a_ws Zv).cast (by rw[in1];exact beq_iff_eq.mp (dg (fun n=>decide (n∈(Str.ofString " \t\r\n").cps.toList) == false) dk hn))) ?_
 refine Zf ((Zb (Zk 3 rfl rfl) R.lx.a_cm Zv).cast (by rw[in1];exact beq_iff_eq.mp (dg (fun n=>decide (n∈(Str.ofString "#").cps.toList) == false) dk hn))) ?_
 refine Zf ((Ys (d:=true) (e:=false) (Zm R.lx.a_px) (fun o_=>((Zb (Zk 3 rfl rfl) R.lx.a_es Zv).cast (by rw[in1];exact beq_iff_eq.mp (dg (fun n=>decide (n∈(Str.ofString "\\").cps.toList) == false) dk hn))))).cast rfl) ?_
 refine Z8 ((Zb (Zk 3 rfl rfl) R.lx.a_wc Zv).cast (by rw[in1];exact dg (fun n=>decide (n∈wcS.cps.toList)) dk hn)) ?_
 refine R.lx.set_tk (Za 3 rfl rfl) ?_
 rintro o_ rfl
 rw[Zo]
 refine R.lx.set_st ev_s ?_
 rintro o_ ⟨t2,rfl⟩
 rw[Zo,s_a]
 exact Zg fun h' H'=>⟨rfl,_,_,_,_,_,_,_,H'⟩
theorem t_c39 {l : LC}{n : Nat}{t : Tok}{L : Addr}(hA : Rm A 7) (R : RT g as os j k x dx io di d1 d2 s) (hst : l.st=39) (hn : n=39) (H : inL c (callEnv Yd L 838) g as os j k x io d1 d2 s l p (some (.str (ch n) t)) h) :
 W c A (execs (rtB.drop 3) (callEnv Yd L 838)) (goQ c (callEnv Yd L 838) g as os j k x io d1 d2 s .next { l with st:=97,q:=true } p) X h:=by
 obtain⟨T,te,ts,ln,tn,tt,H⟩:=H
 obtain⟨st,tk,qt,e⟩:=l
 dsimp only at *
 subst hst
 subst hn
 refine Zl ?_
 intro Q'
 refine (?_ : SB c _ _ _ _ _ _ _ _ _ _) h H
 refine Zf (Zb R.lx.a_st ev_none X6) ?_
 refine Zf ((Zb R.lx.a_st ev_s Yu).cast dk) ?_
 refine Z8 ((Zb R.lx.a_st R.lx.a_qu Zv).cast (by rw[in1];exact dk)) ?_
 refine Zs 1 rfl rfl V4 ?_
 rintro o_ rfl
 refine Z7 ((Yo (Yk (Zk 3 rfl rfl) (X4 (Uc _)))).cast (by rw[tx1];rfl)) ?_
 refine Z8 ((Zb (Zk 3 rfl rfl) R.lx.a_st Yu).cast dk) ?_
 refine Zf ((Yo (Zm R.lx.a_px)).cast rfl) ?_
 refine R.lx.set_st ev_s ?_
 rintro o_ ⟨t2,rfl⟩
 rw[Zo,s_a]
 exact Zg fun h' H'=>⟨rfl,_,_,_,_,_,_,_,H'⟩
theorem t_a39 {l : LC}{n : Nat}{t : Tok}{L : Addr}(hA : Rm A 7) (R : RT g as os j k x dx io di d1 d2 s) (hst : l.st=39) (hn : n≠39) (hz : l.tk.length < 90000) (H : inL c (callEnv Yd L 838) g as os j k x io d1 d2 s l p (some (.str (ch n) t)) h) :
 W c A (execs (rtB.drop 3) (callEnv Yd L 838)) (goQ c (callEnv Yd L 838) g as os j k x io d1 d2 s .next { l with tk:=l.tk ++ ch n,q:=true } p) X h:=by
 obtain⟨T,te,ts,ln,tn,tt,H⟩:=H
 obtain⟨st,tk,qt,e⟩:=l
 dsimp only at *
 subst hst
 refine Zl ?_
 intro Q'
 refine (?_ : SB c _ _ _ _ _ _ _ _ _ _) h H
 refine Zf (Zb R.lx.a_st ev_none X6) ?_
 refine Zf ((Zb R.lx.a_st ev_s Yu).cast dk) ?_
 refine Z8 ((Zb R.lx.a_st R.lx.a_qu Zv).cast (by rw[in1];exact dk)) ?_
 refine Zs 1 rfl rfl V4 ?_
 rintro o_ rfl
 refine Z7 ((Yo (Yk (Zk 3 rfl rfl) (X4 (Uc _)))).cast (by rw[tx1];rfl)) ?_
 refine Zf ((Zb (Zk 3 rfl rfl) R.lx.a_st Yu).cast (by rw[ch_eq];exact decide_eq_false hn)) ?_
 refine Zf ((Xq (Ye (d:=true) (Zm R.lx.a_px) (fun o_=>Ye (Zb (Zk 3 rfl rfl) R.lx.a_es Zv) (fun o_=>Ye (d:=false) (e:=true) ((Zb R.lx.a_st R.lx.a_eq Zv).cast (by rw[in1];exact dk)) (fun q=>by cases q))))).cast (by simp)) ?_
 refine R.lx.aug_tk (Zk 3 rfl rfl) (by rw[tx1];exact q2 ‹_› (by decide)) fun t2=>?_
 rw[Zo]
 exact Zg fun h' H'=>⟨rfl,_,_,_,_,_,_,_,H'⟩
theorem t_c34 {l : LC}{n : Nat}{t : Tok}{L : Addr}(hA : Rm A 7) (R : RT g as os j k x dx io di d1 d2 s) (hst : l.st=34) (hn : n=34) (H : inL c (callEnv Yd L 838) g as os j k x io d1 d2 s l p (some (.str (ch n) t)) h) :
 W c A (execs (rtB.drop 3) (callEnv Yd L 838)) (goQ c (callEnv Yd L 838) g as os j k x io d1 d2 s .next { l with st:=97,q:=true } p) X h:=by
 obtain⟨T,te,ts,ln,tn,tt,H⟩:=H
 obtain⟨st,tk,qt,e⟩:=l
 dsimp only at *
 subst hst
 subst hn
 refine Zl ?_
 intro Q'
 refine (?_ : SB c _ _ _ _ _ _ _ _ _ _) h H
 refine Zf (Zb R.lx.a_st ev_none X6) ?_
 refine Zf ((Zb R.lx.a_st ev_s Yu).cast dk) ?_
 refine Z8 ((Zb R.lx.a_st R.lx.a_qu Zv).cast (by rw[in1];exact dk)) ?_
 refine Zs 1 rfl rfl V4 ?_
 rintro o_ rfl
 refine Z7 ((Yo (Yk (Zk 3 rfl rfl) (X4 (Uc _)))).cast (by rw[tx1];rfl)) ?_
 refine Z8 ((Zb (Zk 3 rfl rfl) R.lx.a_st Yu).cast dk) ?_
 refine Zf ((Yo (Zm R.lx.a_px)).cast rfl) ?_
 refine R.lx.set_st ev_s ?_
 rintro o_ ⟨t2,rfl⟩
 rw[Zo,s_a]
 exact Zg fun h' H'=>⟨rfl,_,_,_,_,_,_,_,H'⟩
theorem t_a34 {l : LC}{n : Nat}{t : Tok}{L : Addr}(hA : Rm A 7) (R : RT g as os j k x dx io di d1 d2 s) (hst : l.st=34) (hn : n≠34) (hn2 : n≠92) (hz : l.tk.length < 90000) (H : inL c (callEnv Yd L 838) g as os j k x io d1 d2 s l p (some (.str (ch n) t)) h) :
 W c A (execs (rtB.drop 3) (callEnv Yd L 838)) (goQ c (callEnv Yd L 838) g as os j k x io d1 d2 s .next { l with tk:=l.tk ++ ch n,q:=true } p) X h:=by
 obtain⟨T,te,ts,ln,tn,tt,H⟩:=H
 obtain⟨st,tk,qt,e⟩:=l
 dsimp only at *
 subst hst
 refine Zl ?_
 intro Q'
 refine (?_ : SB c _ _ _ _ _ _ _ _ _ _) h H
 refine Zf (Zb R.lx.a_st ev_none X6) ?_
 refine Zf ((Zb R.lx.a_st ev_s Yu).cast dk) ?_
 refine Z8 ((Zb R.lx.a_st R.lx.a_qu Zv).cast (by rw[in1];exact dk)) ?_
 refine Zs 1 rfl rfl V4 ?_
 rintro o_ rfl
 refine Z7 ((Yo (Yk (Zk 3 rfl rfl) (X4 (Uc _)))).cast (by rw[tx1];rfl)) ?_
 refine Zf ((Zb (Zk 3 rfl rfl) R.lx.a_st Yu).cast (by rw[ch_eq];exact decide_eq_false hn)) ?_
 refine Zf ((Xq (Ye (d:=true) (e:=false) (Zm R.lx.a_px) (fun o_=>(Ye (d:=false) (e:=false) ((Zb (Zk 3 rfl rfl) R.lx.a_es Zv).cast (no_es hn2)) (fun q=>by cases q))))).cast rfl) ?_
 refine R.lx.aug_tk (Zk 3 rfl rfl) (by rw[tx1];exact q2 ‹_› (by decide)) fun t2=>?_
 rw[Zo]
 exact Zg fun h' H'=>⟨rfl,_,_,_,_,_,_,_,H'⟩
theorem t_e34 {l : LC}{n : Nat}{t : Tok}{L : Addr}(hA : Rm A 7) (R : RT g as os j k x dx io di d1 d2 s) (hst : l.st=34) (hn : n=92) (H : inL c (callEnv Yd L 838) g as os j k x io d1 d2 s l p (some (.str (ch n) t)) h) :
 W c A (execs (rtB.drop 3) (callEnv Yd L 838)) (goQ c (callEnv Yd L 838) g as os j k x io d1 d2 s .next { l with st:=92,e:=34,q:=true } p) X h:=by
 obtain⟨T,te,ts,ln,tn,tt,H⟩:=H
 obtain⟨st,tk,qt,e⟩:=l
 dsimp only at *
 subst hst
 subst hn
 refine Zl ?_
 intro Q'
 refine (?_ : SB c _ _ _ _ _ _ _ _ _ _) h H
 refine Zf (Zb R.lx.a_st ev_none X6) ?_
 refine Zf ((Zb R.lx.a_st ev_s Yu).cast dk) ?_
 refine Z8 ((Zb R.lx.a_st R.lx.a_qu Zv).cast (by rw[in1];exact dk)) ?_
 refine Zs 1 rfl rfl V4 ?_
 rintro o_ rfl
 refine Z7 ((Yo (Yk (Zk 3 rfl rfl) (X4 (Uc _)))).cast (by rw[tx1];rfl)) ?_
 refine Zf ((Zb (Zk 3 rfl rfl) R.lx.a_st Yu).cast dk) ?_
 refine Z8 ((Xq (Ye (d:=true) (e:=true) (Zm R.lx.a_px) (fun o_=>(Ye (d:=true) (e:=true) ((Zb (Zk 3 rfl rfl) R.lx.a_es Zv).cast (by rw[in1];exact dk)) (fun o_=>Ye (d:=true) (e:=true) ((Zb R.lx.a_st R.lx.a_eq Zv).cast (by rw[in1];exact dk)) fun o_=>Mc))))).cast rfl) ?_
 refine Zs 2 rfl rfl R.lx.a_st ?_
 rintro o_ ⟨t2,rfl⟩
 refine R.lx.set_st (Za 3 rfl rfl) ?_
 rintro o_ rfl
 rw[Zo]
 exact Zg fun h' H'=>⟨rfl,_,_,_,_,_,_,_,H'⟩
theorem t_x97 {l : LC}{n : Nat}{t : Tok}{L : Addr}(hA : Rm A 7) (R : RT g as os j k x dx io di d1 d2 s) (hst : l.st=92) (he : l.e=97) (hz : l.tk.length < 90000) (H : inL c (callEnv Yd L 838) g as os j k x io d1 d2 s l p (some (.str (ch n) t)) h) :
 W c A (execs (rtB.drop 3) (callEnv Yd L 838)) (goQ c (callEnv Yd L 838) g as os j k x io d1 d2 s .next { l with st:=97,tk:=l.tk ++ ch n } p) X h:=by
 obtain⟨T,te,ts,ln,tn,tt,H⟩:=H
 obtain⟨st,tk,qt,e⟩:=l
 dsimp only at *
 subst hst
 subst he
 refine Zl ?_
 intro Q'
 refine (?_ : SB c _ _ _ _ _ _ _ _ _ _) h H
 refine Zf (Zb R.lx.a_st ev_none X6) ?_
 refine Zf ((Zb R.lx.a_st ev_s Yu).cast dk) ?_
 refine Zf ((Zb R.lx.a_st R.lx.a_qu Zv).cast (by rw[in1];exact dk)) ?_
 refine Z8 ((Zb R.lx.a_st R.lx.a_es Zv).cast (by rw[in1];exact dk)) ?_
 refine Z7 ((Yo (Yk (Zk 3 rfl rfl) (X4 (Uc _)))).cast (by rw[tx1];rfl)) ?_
 refine Z7 ((Xq (Ye (d:=false) (e:=false) ((Zb (Zk 2 rfl rfl) R.lx.a_qu Zv).cast (by rw[in1];exact dk)) (fun q=>by cases q))).cast rfl) ?_
 refine R.lx.aug_tk (Zk 3 rfl rfl) (by rw[tx1];exact q2 ‹_› (by decide)) fun t2=>?_
 rw[Zo]
 refine R.lx.set_st (Za 2 rfl rfl) ?_
 rintro o_ rfl
 rw[Zo]
 exact Zg fun h' H'=>⟨rfl,_,_,_,_,_,_,_,H'⟩
theorem t_x34 {l : LC}{n : Nat}{t : Tok}{L : Addr}(hA : Rm A 7) (R : RT g as os j k x dx io di d1 d2 s) (hst : l.st=92) (he : l.e=34) (hn : n=92) (hz : l.tk.length < 90000) (H : inL c (callEnv Yd L 838) g as os j k x io d1 d2 s l p (some (.str (ch n) t)) h) :
 W c A (execs (rtB.drop 3) (callEnv Yd L 838)) (goQ c (callEnv Yd L 838) g as os j k x io d1 d2 s .next { l with st:=34,tk:=l.tk ++ ch n } p) X h:=by
 obtain⟨T,te,ts,ln,tn,tt,H⟩:=H
 obtain⟨st,tk,qt,e⟩:=l
 dsimp only at *
 subst hst
 subst he
 subst hn
 refine Zl ?_
 intro Q'
 refine (?_ : SB c _ _ _ _ _ _ _ _ _ _) h H
 refine Zf (Zb R.lx.a_st ev_none X6) ?_
 refine Zf ((Zb R.lx.a_st ev_s Yu).cast dk) ?_
 refine Zf ((Zb R.lx.a_st R.lx.a_qu Zv).cast (by rw[in1];exact dk)) ?_
 refine Z8 ((Zb R.lx.a_st R.lx.a_es Zv).cast (by rw[in1];exact dk)) ?_
 refine Z7 ((Yo (Yk (Zk 3 rfl rfl) (X4 (Uc _)))).cast (by rw[tx1];rfl)) ?_
 refine Z7 ((Xq (Ye (d:=true) (e:=false) ((Zb (Zk 2 rfl rfl) R.lx.a_qu Zv).cast (by rw[in1];exact dk)) (fun o_=>Ye (d:=false) (e:=false) ((Zb (Zk 3 rfl rfl) R.lx.a_st ne_ss).cast dk) (fun q=>by cases q)))).cast rfl) ?_
 refine R.lx.aug_tk (Zk 3 rfl rfl) (by rw[tx1];exact q2 ‹_› (by decide)) fun t2=>?_
 rw[Zo]
 refine R.lx.set_st (Za 2 rfl rfl) ?_
 rintro o_ rfl
 rw[Zo]
 exact Zg fun h' H'=>⟨rfl,_,_,_,_,_,_,_,H'⟩
theorem t_w97 {l : LC}{n : Nat}{t : Tok}{L : Addr}(hA : Rm A 7) (R : RT g as os j k x dx io di d1 d2 s) (hst : l.st=97) (hn : n=32∨n=9) (hz : l.tk.length < 90000) (hq : (((l.tk.length : Int) != 0) || l.q)=true) (H : inL c (callEnv Yd L 838) g as os j k x io d1 d2 s l p (some (.str (ch n) t)) h) :
 W c A (execs (rtB.drop 3) (callEnv Yd L 838)) (goQ c (callEnv Yd L 838) g as os j k x io d1 d2 s .brk { l with st:=32 } p) X h:=by
 obtain⟨T,te,ts,ln,tn,tt,H⟩:=H
 obtain⟨st,tk,qt,e⟩:=l
 dsimp only at *
 subst hst
 refine Zl ?_
 intro Q'
 refine (?_ : SB c _ _ _ _ _ _ _ _ _ _) h H
 refine Zf (Zb R.lx.a_st ev_none X6) ?_
 refine Zf ((Zb R.lx.a_st ev_s Yu).cast dk) ?_
 refine Zf ((Zb R.lx.a_st R.lx.a_qu Zv).cast (by rw[in1];exact dk)) ?_
 refine Zf ((Zb R.lx.a_st R.lx.a_es Zv).cast (by rw[in1];exact dk)) ?_
 intro h₁ H1
 refine T3 (Yx (R.lx.a_st.runS H1 fun t1=>?_))
 refine Yr (Zi (ev_s.runS H1 fun t2=>Zi (ev_s.runS H1 fun t3=>Zd ⟨by rw[sizeLine_eq];simp,?_⟩)))
 refine Mi ⟨_,Heap.get?_push_size _ rfl,rfl,0,rfl⟩ (Yb ⟨dk,?_⟩)
 refine (?_ : SB c _ _ _ _ _ _ _ _ _ _) _ (H1.push _)
 refine Zf ((Yo (Yk (Zk 3 rfl rfl) (X4 (Uc _)))).cast (by rw[tx1];rfl)) ?_
 refine Z8 ((Zb (Zk 3 rfl rfl) R.lx.a_ws Zv).cast (by rw[in1];rcases hn with rfl | rfl <;> exact dk)) ?_
 refine Z7 ((Zb R.lx.a_db ev_i Md).cast (by decide)) ?_
 refine R.lx.set_st ev_s ?_
 rintro o_ ⟨t2,rfl⟩
 rw[Zo,s_b]
 refine Z8 ((tv_or2 (Yk R.lx.a_tk (X4 (show tk.length < 2 ^ 60 by exact q1 ‹_› (by decide)))) (fun o_=>Ys (Zm R.lx.a_px) (fun o_=>Zm (Za 1 rfl rfl)))).cast (by rw[Bool.true_and];exact hq)) ?_
 exact M1 fun h' H'=>⟨rfl,_,_,_,_,_,_,_,H'⟩
theorem t_h97 {l : LC}{n : Nat}{t : Tok}{L : Addr}(hA : Rm A 7) (R : RT g as os j k x dx io di d1 d2 s) (hst : l.st=97) (hn : n=35) (hz : l.tk.length < 90000) (hq : (((l.tk.length : Int) != 0) || l.q)=true) (hp : p < s.length) (H : inL c (callEnv Yd L 838) g as os j k x io d1 d2 s l p (some (.str (ch n) t)) h) :
 W c A (execs (rtB.drop 3) (callEnv Yd L 838)) (goQ c (callEnv Yd L 838) g as os j k x io d1 d2 s .brk { l with st:=32 } s.length) X h:=by
 obtain⟨T,te,ts,ln,tn,tt,H⟩:=H
 obtain⟨st,tk,qt,e⟩:=l
 dsimp only at *
 subst hst
 subst hn
 refine Zl ?_
 intro Q'
 refine (?_ : SB c _ _ _ _ _ _ _ _ _ _) h H
 refine Zf (Zb R.lx.a_st ev_none X6) ?_
 refine Zf ((Zb R.lx.a_st ev_s Yu).cast dk) ?_
 refine Zf ((Zb R.lx.a_st R.lx.a_qu Zv).cast (by rw[in1];exact dk)) ?_
 refine Zf ((Zb R.lx.a_st R.lx.a_es Zv).cast (by rw[in1];exact dk)) ?_
 intro h₁ H1
 refine T3 (Yx (R.lx.a_st.runS H1 fun t1=>?_))
 refine Yr (Zi (ev_s.runS H1 fun t2=>Zi (ev_s.runS H1 fun t3=>Zd ⟨by rw[sizeLine_eq];simp,?_⟩)))
 refine Mi ⟨_,Heap.get?_push_size _ rfl,rfl,0,rfl⟩ (Yb ⟨dk,?_⟩)
 refine (?_ : SB c _ _ _ _ _ _ _ _ _ _) _ (H1.push _)
 refine Zf ((Yo (Yk (Zk 3 rfl rfl) (X4 (Uc _)))).cast (by rw[tx1];rfl)) ?_
 refine Zf ((Zb (Zk 3 rfl rfl) R.lx.a_ws Zv).cast (by rw[in1];exact dk)) ?_
 refine Z8 ((Zb (Zk 3 rfl rfl) R.lx.a_cm Zv).cast (by rw[in1];exact dk)) ?_
 intro h₂ H2
 obtain⟨un,ub,up,Ho⟩:=H2.openIO (j:=j) R.hj (lz_j R.lj R.ne)
 rw[To R.ne] at Ho
 refine Yj (Xd Ho R.lx.a_in (.fz R.C.J) (.ld j R.hj (lz_j R.lj R.ne)) mk_readline (by kernel_rfl) (Zh (readline_ok (j:=j) (hA.mono (by decide)) H2 (fun sp=>.fz R.C.J) R.hj (lz_j R.lj R.ne) R.hz hp R.nl) ?_ fun o_ o_ q=>q.elim))
 intro o_ h₃ H3
 rw[To R.ne] at H3
 refine (?_ : SB c _ _ _ _ _ _ _ _ _ _) h₃ H3
 refine R.lx.aug_ln ev_i fun t4=>?_
 rw[Zo]
 refine Z8 (Zm R.lx.a_px) ?_
 refine R.lx.set_st ev_s ?_
 rintro o_ ⟨t5,rfl⟩
 rw[Zo,s_b]
 refine Z8 ((tv_or2 (Yk R.lx.a_tk (X4 (show tk.length < 2 ^ 60 by exact q1 ‹_› (by decide)))) (fun o_=>Ys (Zm R.lx.a_px) (fun o_=>Zm (Za 1 rfl rfl)))).cast (by rw[Bool.true_and];exact hq)) ?_
 exact M1 fun h' H'=>⟨rfl,_,_,_,_,_,_,_,H'⟩
theorem t_q97 {l : LC}{n : Nat}{t : Tok}{L : Addr}(hA : Rm A 7) (R : RT g as os j k x dx io di d1 d2 s) (hst : l.st=97) (hn : n=39∨n=34) (H : inL c (callEnv Yd L 838) g as os j k x io d1 d2 s l p (some (.str (ch n) t)) h) :
 W c A (execs (rtB.drop 3) (callEnv Yd L 838)) (goQ c (callEnv Yd L 838) g as os j k x io d1 d2 s .next { l with st:=n } p) X h:=by
 obtain⟨T,te,ts,ln,tn,tt,H⟩:=H
 obtain⟨st,tk,qt,e⟩:=l
 dsimp only at *
 subst hst
 refine Zl ?_
 intro Q'
 refine (?_ : SB c _ _ _ _ _ _ _ _ _ _) h H
 refine Zf (Zb R.lx.a_st ev_none X6) ?_
 refine Zf ((Zb R.lx.a_st ev_s Yu).cast dk) ?_
 refine Zf ((Zb R.lx.a_st R.lx.a_qu Zv).cast (by rw[in1];exact dk)) ?_
 refine Zf ((Zb R.lx.a_st R.lx.a_es Zv).cast (by rw[in1];exact dk)) ?_
 intro h₁ H1
 refine T3 (Yx (R.lx.a_st.runS H1 fun t1=>?_))
 refine Yr (Zi (ev_s.runS H1 fun t2=>Zi (ev_s.runS H1 fun t3=>Zd ⟨by rw[sizeLine_eq];simp,?_⟩)))
 refine Mi ⟨_,Heap.get?_push_size _ rfl,rfl,0,rfl⟩ (Yb ⟨dk,?_⟩)
 refine (?_ : SB c _ _ _ _ _ _ _ _ _ _) _ (H1.push _)
 refine Zf ((Yo (Yk (Zk 3 rfl rfl) (X4 (Uc _)))).cast (by rw[tx1];rfl)) ?_
 refine Zf ((Zb (Zk 3 rfl rfl) R.lx.a_ws Zv).cast (by rw[in1];rcases hn with rfl | rfl <;> exact dk)) ?_
 refine Zf ((Zb (Zk 3 rfl rfl) R.lx.a_cm Zv).cast (by rw[in1];rcases hn with rfl | rfl <;> exact dk)) ?_
 refine Zf ((Zb R.lx.a_st ev_s Yu).cast dk) ?_
 refine Z8 ((Ys (d:=true) (e:=true) (Zm R.lx.a_px) (fun o_=>((Zb (Zk 3 rfl rfl) R.lx.a_qu Zv).cast (by rw[in1];rcases hn with rfl | rfl <;> exact dk)))).cast rfl) ?_
 refine R.lx.set_st (Za 3 rfl rfl) ?_
 rintro o_ rfl
 rw[Zo]
 exact Zg fun h' H'=>⟨rfl,_,_,_,_,_,_,_,H'⟩
theorem t_e97 {l : LC}{n : Nat}{t : Tok}{L : Addr}(hA : Rm A 7) (R : RT g as os j k x dx io di d1 d2 s) (hst : l.st=97) (hn : n=92) (H : inL c (callEnv Yd L 838) g as os j k x io d1 d2 s l p (some (.str (ch n) t)) h) :
 W c A (execs (rtB.drop 3) (callEnv Yd L 838)) (goQ c (callEnv Yd L 838) g as os j k x io d1 d2 s .next { l with st:=92,e:=97 } p) X h:=by
 obtain⟨T,te,ts,ln,tn,tt,H⟩:=H
 obtain⟨st,tk,qt,e⟩:=l
 dsimp only at *
 subst hst
 subst hn
 refine Zl ?_
 intro Q'
 refine (?_ : SB c _ _ _ _ _ _ _ _ _ _) h H
 refine Zf (Zb R.lx.a_st ev_none X6) ?_
 refine Zf ((Zb R.lx.a_st ev_s Yu).cast dk) ?_
 refine Zf ((Zb R.lx.a_st R.lx.a_qu Zv).cast (by rw[in1];exact dk)) ?_
 refine Zf ((Zb R.lx.a_st R.lx.a_es Zv).cast (by rw[in1];exact dk)) ?_
 intro h₁ H1
 refine T3 (Yx (R.lx.a_st.runS H1 fun t1=>?_))
 refine Yr (Zi (ev_s.runS H1 fun t2=>Zi (ev_s.runS H1 fun t3=>Zd ⟨by rw[sizeLine_eq];simp,?_⟩)))
 refine Mi ⟨_,Heap.get?_push_size _ rfl,rfl,0,rfl⟩ (Yb ⟨dk,?_⟩)
 refine (?_ : SB c _ _ _ _ _ _ _ _ _ _) _ (H1.push _)
 refine Zf ((Yo (Yk (Zk 3 rfl rfl) (X4 (Uc _)))).cast (by rw[tx1];rfl)) ?_
 refine Zf ((Zb (Zk 3 rfl rfl) R.lx.a_ws Zv).cast (by rw[in1];exact dk)) ?_
 refine Zf ((Zb (Zk 3 rfl rfl) R.lx.a_cm Zv).cast (by rw[in1];exact dk)) ?_
 refine Zf ((Zb R.lx.a_st ev_s Yu).cast dk) ?_
 refine Zf ((Ys (d:=true) (e:=false) (Zm R.lx.a_px) (fun o_=>((Zb (Zk 3 rfl rfl) R.lx.a_qu Zv).cast (by rw[in1];exact dk)))).cast rfl) ?_
 refine Z8 ((Ys (d:=true) (e:=true) (Zm R.lx.a_px) (fun o_=>((Zb (Zk 3 rfl rfl) R.lx.a_es Zv).cast (by rw[in1];exact dk)))).cast rfl) ?_
 refine Zs 2 rfl rfl ev_s ?_
 rintro o_ ⟨t6,rfl⟩
 refine R.lx.set_st (Za 3 rfl rfl) ?_
 rintro o_ rfl
 rw[Zo,s_a]
 exact Zg fun h' H'=>⟨rfl,_,_,_,_,_,_,_,H'⟩
theorem t_d97 {l : LC}{n : Nat}{t : Tok}{L : Addr}(hA : Rm A 7) (R : RT g as os j k x dx io di d1 d2 s) (hst : l.st=97) (hn : dig n=true) (hz : l.tk.length < 90000) (H : inL c (callEnv Yd L 838) g as os j k x io d1 d2 s l p (some (.str (ch n) t)) h) :
 W c A (execs (rtB.drop 3) (callEnv Yd L 838)) (goQ c (callEnv Yd L 838) g as os j k x io d1 d2 s .next { l with tk:=l.tk ++ ch n } p) X h:=by
 obtain⟨T,te,ts,ln,tn,tt,H⟩:=H
 obtain⟨st,tk,qt,e⟩:=l
 dsimp only at *
 subst hst
 refine Zl ?_
 intro Q'
 refine (?_ : SB c _ _ _ _ _ _ _ _ _ _) h H
 refine Zf (Zb R.lx.a_st ev_none X6) ?_
 refine Zf ((Zb R.lx.a_st ev_s Yu).cast dk) ?_
 refine Zf ((Zb R.lx.a_st R.lx.a_qu Zv).cast (by rw[in1];exact dk)) ?_
 refine Zf ((Zb R.lx.a_st R.lx.a_es Zv).cast (by rw[in1];exact dk)) ?_
 intro h₁ H1
 refine T3 (Yx (R.lx.a_st.runS H1 fun t1=>?_))
 refine Yr (Zi (ev_s.runS H1 fun t2=>Zi (ev_s.runS H1 fun t3=>Zd ⟨by rw[sizeLine_eq];simp,?_⟩)))
 refine Mi ⟨_,Heap.get?_push_size _ rfl,rfl,0,rfl⟩ (Yb ⟨dk,?_⟩)
 refine (?_ : SB c _ _ _ _ _ _ _ _ _ _) _ (H1.push _)
 refine Zf ((Yo (Yk (Zk 3 rfl rfl) (X4 (Uc _)))).cast (by rw[tx1];rfl)) ?_
 refine Zf ((Zb (Zk 3 rfl rfl) R.lx.a_ws Zv).cast (by rw[in1];exact beq_iff_eq.mp (dg (fun n=>decide (n∈(Str.ofString " \t\r\n").cps.toList) == false) dk hn))) ?_
 refine Zf ((Zb (Zk 3 rfl rfl) R.lx.a_cm Zv).cast (by rw[in1];exact beq_iff_eq.mp (dg (fun n=>decide (n∈(Str.ofString "#").cps.toList) == false) dk hn))) ?_
 refine Zf ((Zb R.lx.a_st ev_s Yu).cast dk) ?_
 refine Zf ((Ys (d:=true) (e:=false) (Zm R.lx.a_px) (fun o_=>((Zb (Zk 3 rfl rfl) R.lx.a_qu Zv).cast (by rw[in1];exact beq_iff_eq.mp (dg (fun n=>decide (n∈(Str.ofString "'\"").cps.toList) == false) dk hn))))).cast rfl) ?_
 refine Zf ((Ys (d:=true) (e:=false) (Zm R.lx.a_px) (fun o_=>((Zb (Zk 3 rfl rfl) R.lx.a_es Zv).cast (by rw[in1];exact beq_iff_eq.mp (dg (fun n=>decide (n∈(Str.ofString "\\").cps.toList) == false) dk hn))))).cast rfl) ?_
 refine Z8 ((Xq (atv_or (d:=true) (e:=true) ((Zb (Zk 3 rfl rfl) R.lx.a_wc Zv).cast (by rw[in1];exact dg (fun n=>decide (n∈wcS.cps.toList)) dk hn)) (fun q=>by cases q))).cast rfl) ?_
 refine R.lx.aug_tk (Zk 3 rfl rfl) (by rw[tx1];exact q2 ‹_› (by decide)) fun t7=>?_
 rw[Zo]
 exact Zg fun h' H'=>⟨rfl,_,_,_,_,_,_,_,H'⟩
end
noncomputable def step (l : LC) (n : Nat) : Option (Bool × LC):=
 if l.st=32 then
  if n=39∨n=34 then some (false,{ l with st:=n }) else if dig n=true then some (false,{ l with st:=97,tk:=ch n }) else none
 else if l.st=39 then
  if n=39 then some (false,{ l with st:=97,q:=true }) else some (false,{ l with tk:=l.tk ++ ch n,q:=true })
 else if l.st=34 then
  if n=34 then some (false,{ l with st:=97,q:=true }) else if n=92 then some (false,{ l with st:=92,e:=34,q:=true }) else some (false,{ l with tk:=l.tk ++ ch n,q:=true })
 else if l.st=92 then
  if l.e=97 then some (false,{ l with st:=97,tk:=l.tk ++ ch n }) else if l.e=34∧n=92 then some (false,{ l with st:=34,tk:=l.tk ++ ch n }) else none
 else if l.st=97 then
  if n=32∨n=9 then (if (((l.tk.length : Int) != 0) || l.q)=true then some (true,{ l with st:=32 }) else none)
  else if n=39∨n=34 then some (false,{ l with st:=n })
  else if n=92 then some (false,{ l with st:=92,e:=97 })
  else if dig n=true then some (false,{ l with tk:=l.tk ++ ch n }) else none
 else none
noncomputable def Y9 : List Nat→LC→Option (List Nat × LC)
 | [],_=>none
 | n :: r,l =>
  if l.st=97∧n=35∧r≠[]∧(((l.tk.length : Int) != 0) || l.q)=true then some ([],{ l with st:=32 })
  else match step l n with
   | none=>none
   | some (true,l')=>some (r,l')
   | some (false,l')=>Y9 r l'
theorem len_ch (a : Str) (n : Nat) : (a ++ ch n).length=a.length + 1:=by rw[Str.length_append,tx1]
theorem step_len {l l' : LC}{n : Nat}{b : Bool}(h : step l n=some (b,l')) : l'.tk.length≤l.tk.length + 1:=by
 unfold step at h
 repeat' (split at h)
 all_goals first | cases h;done | (simp only[Option.some.injEq,Prod.mk.injEq] at h;obtain⟨-,rfl⟩:=h;first | (rw[len_ch];exact Nat.le_refl _) | (dsimp only;first | with_reducible exact Nat.le_add_right _ _ | exact Nat.succ_pos _) | (dsimp only;rw[tx1];omega))
theorem M5 (s : Str) : s.cps.toList.length=s.length:=by rw[Array.length_toList];rfl
theorem drop_lt {s : Str}{p n : Nat}{r : List Nat}(h : s.cps.toList.drop p=n :: r) : p < s.length:=by
 have:=congrArg List.length h
 rw[List.length_drop,M5,List.length_cons] at this;exact Nat.sub_pos_iff_lt.mp (this ▸ Nat.succ_pos _)
theorem drop_nx {s : Str}{p n : Nat}{r : List Nat}(h : s.cps.toList.drop p=n :: r) : s.cps.toList.drop (p + 1)=r:=by
 rw[← List.drop_drop,h];rfl
theorem drop_chr {s : Str}{p n : Nat}{r : List Nat}(h : s.cps.toList.drop p=n :: r) : chr s p=ch n:=by unfold chr;rw[h];rfl
theorem drop_nxt {s : Str}{p n : Nat}{r : List Nat}(h : s.cps.toList.drop p=n :: r) : nxt s p=p + 1:=by unfold nxt;rw[if_pos (drop_lt h)]
theorem drop_mem {s : Str}{p n : Nat}{r : List Nat}(h : s.cps.toList.drop p=n :: r) : n∈s.cps.toList:=List.mem_of_mem_drop (by rw[h];exact .head _)
section
variable {j k : Nat} {x dx io di d1 d2 : Addr} {s : Str} {p : Nat}
theorem pre_ch {l : LC}{nc : Option Value}{n : Nat}{r : List Nat}{Q : Flow→Heap→Prop}{L : Addr}(hA : Rm A 6) (R : RT g as os j k x dx io di d1 d2 s) (hd : s.cps.toList.drop p=n :: r) (H : inL c (callEnv Yd L 838) g as os j k x io d1 d2 s l p nc h)
 (q : ∀ t h',inL c (callEnv Yd L 838) g as os j k x io d1 d2 s l (p + 1) (some (.str (ch n) t)) h'→W c A (execs (rtB.drop 3) (callEnv Yd L 838)) Q X h') : W c A (execs rtB (callEnv Yd L 838)) Q X h:=by
 have lt:=drop_lt hd
 refine rt_pre hA R (by have:=R.hz;exact s5 ‹_› ‹_›) ?_ H fun t h' H'=>?_
 ·rw[drop_chr hd,show Str.ofString "\n"=ch 10 from dk,ch_eq]
  exact decide_eq_false fun e=>R.nl (e ▸ drop_mem hd)
 ·rw[drop_chr hd,drop_nxt hd] at H'
  exact q t h' H'
theorem turn_ok {l l' : LC}{n : Nat}{b : Bool}{nc : Option Value}{r : List Nat}{L : Addr}(hA : Rm A 7) (R : RT g as os j k x dx io di d1 d2 s) (hd : s.cps.toList.drop p=n :: r) (hs : step l n=some (b,l')) (hz : l.tk.length < 90000) (H : inL c (callEnv Yd L 838) g as os j k x io d1 d2 s l p nc h) :
 W c A (execs rtB (callEnv Yd L 838)) (goQ c (callEnv Yd L 838) g as os j k x io d1 d2 s (if b then .brk else .next) l' (p + 1)) X h:=by
 refine pre_ch (hA.mono (by decide)) R hd H fun t h₁ H1=>?_
 clear H
 unfold step at hs
 by_cases h32 : l.st=32
 ·rw[if_pos h32] at hs
  by_cases hn : n=39∨n=34
  ·rw[if_pos hn] at hs;cases hs;exact t_q0 hA R h32 hn H1
  ·rw[if_neg hn] at hs
   by_cases hd : dig n=true
   ·rw[if_pos hd] at hs;cases hs;exact t_d0 hA R h32 hd H1
   ·rw[if_neg hd] at hs;cases hs
 rw[if_neg h32] at hs
 by_cases h39 : l.st=39
 ·rw[if_pos h39] at hs
  by_cases hn : n=39
  ·rw[if_pos hn] at hs;cases hs;exact t_c39 hA R h39 hn H1
  ·rw[if_neg hn] at hs;cases hs;exact t_a39 hA R h39 hn hz H1
 rw[if_neg h39] at hs
 by_cases h34 : l.st=34
 ·rw[if_pos h34] at hs
  by_cases hn : n=34
  ·rw[if_pos hn] at hs;cases hs;exact t_c34 hA R h34 hn H1
  ·rw[if_neg hn] at hs
   by_cases he : n=92
   ·rw[if_pos he] at hs;cases hs;exact t_e34 hA R h34 he H1
   ·rw[if_neg he] at hs;cases hs;exact t_a34 hA R h34 hn he hz H1
 rw[if_neg h34] at hs
 by_cases h92 : l.st=92
 ·rw[if_pos h92] at hs
  by_cases he : l.e=97
  ·rw[if_pos he] at hs;cases hs;exact t_x97 hA R h92 he hz H1
  ·rw[if_neg he] at hs
   by_cases hn : l.e=34∧n=92
   ·rw[if_pos hn] at hs;cases hs;exact t_x34 hA R h92 hn.1 hn.2 hz H1
   ·rw[if_neg hn] at hs;cases hs
 rw[if_neg h92] at hs
 by_cases h97 : l.st=97
 ·rw[if_pos h97] at hs
  by_cases hn : n=32∨n=9
  ·rw[if_pos hn] at hs
   by_cases hq : (((l.tk.length : Int) != 0) || l.q)=true
   ·rw[if_pos hq] at hs;cases hs;exact t_w97 hA R h97 hn hz hq H1
   ·rw[if_neg hq] at hs;cases hs
  rw[if_neg hn] at hs
  by_cases hn : n=39∨n=34
  ·rw[if_pos hn] at hs;cases hs;exact t_q97 hA R h97 hn H1
  rw[if_neg hn] at hs
  by_cases he : n=92
  ·rw[if_pos he] at hs;cases hs;exact t_e97 hA R h97 he H1
  rw[if_neg he] at hs
  by_cases hd : dig n=true
  ·rw[if_pos hd] at hs;cases hs;exact t_d97 hA R h97 hd hz H1
  ·rw[if_neg hd] at hs;cases hs
 ·rw[if_neg h97] at hs;cases hs
noncomputable abbrev shS (io d1 d2 : Addr) (P : Value→Prop) (w : Str) : Sp:=.pr fun o=>Ex7 fun es n T st ln tn tt=>An3 (o=dictOf es n) (ES es (shA T io d1 d2 st (.int ln tn) (.str w tt))) (P st)
variable {ns : List Str}{vs : List (Option Value)}
theorem Led.openSh {P : Value→Prop}{w : Str}(H : Led c env g ns vs as os h) (ha : as[k]?=some dx) (ho : os[k]?=some (shS io d1 d2 P w)) : ∃ T st ln tn tt,P st∧Led c env g ns vs as (os.set k (atS (shA T io d1 d2 st (.int ln tn) (.str w tt)))) h:=by
 obtain⟨o,e,es,n,T,st,ln,tn,tt,rfl,x,p⟩:=H.at_ k _ _ ha ho
 exact⟨T,st,ln,tn,tt,p,H.spec ha ho ⟨_,e,es,n,rfl,x⟩⟩
theorem Led.closeSh {P : Value→Prop}{w : Str}{T : Nat→Tok}{st : Value}{ln : Int}{tn tt : Tok}(H : Led c env g ns vs as os h) (ha : as[k]?=some dx) (ho : os[k]?=some (atS (shA T io d1 d2 st (.int ln tn) (.str w tt)))) (p : P st) : Led c env g ns vs as (os.set k (shS io d1 d2 P w)) h:=by
 obtain⟨o,e,es,n,rfl,x⟩:=H.at_ k _ _ ha ho
 exact H.spec ha ho ⟨_,e,es,n,T,st,ln,tn,tt,rfl,x,p⟩
theorem RT.sub {h : Heap}(R : RT g as os j k x dx io di d1 d2 s) (H : Led c env g ns vs as os' h) : RT (subB g h env ns vs as) as os j k x dx io di d1 d2 s:=
 ⟨R.C.mono H.stay,R.hj,R.hk,R.lj,R.lk,R.ne,R.hz,R.nl⟩
theorem read_token_ok {r r' : List Nat}{w : Str}{q : Bool}{e : Nat}(hA : Rm A 9) (R : RT g as os j k x dx io di d1 d2 s) (H : Led c env g ns vs as (lz os j k (ioS s p) (shS io d1 d2 (isS (ch 32)) (Str.ofString ""))) h) (hd : s.cps.toList.drop p=r) (hr : Y9 r ⟨32,Str.ofString "",false,32⟩=some (r',⟨32,w,q,e⟩))
 (hq : (((w.length : Int) != 0) || q)=true) :
 W c A (call (.ref 838) [.ref x]) (fun v h'=>isS w v∧∃ p',p'≤s.length∧s.cps.toList.drop p'=r'∧Led c env g ns vs as (lz os j k (ioS s p') (shS io d1 d2 (isS (ch 32)) (Str.ofString ""))) h') X h:=by
 refine Zl ?_
 intro Q'
 obtain⟨T,st,ln,tn,tt,⟨ts,rfl⟩,Ho⟩:=H.openSh R.hk (X7 R.lk)
 rw[Zo] at Ho
 refine Us Ho F_rt hA.depth (B_rt _) rfl dk fun L h₁ H1=>?_
 have R':=R.sub Ho
 have hA':=hA.deep (callEnv Yd L 838)
 have hrl : r.length≤s.length:=by rw[← hd,List.length_drop,M5];with_reducible exact Nat.sub_le _ _
 have hsz:=R.hz
 refine (?_ : SB c _ _ _ _ _ _ _ _ _ _) h₁ H1
 refine Zs 1 rfl rfl V4 ?_
 rintro o_ rfl
 refine Zs 2 rfl rfl ev_s ?_
 rintro o_ ⟨t2,rfl⟩
 rw[s_b]
 refine Jf (fun m h'=>Ex4 fun p r l nc=>An5 (m=r.length) (s.cps.toList.drop p=r) (Y9 r l=some (r',⟨32,w,q,e⟩)) (l.tk.length + r.length < 90000) (inL c (callEnv Yd L 838) (subB g h env ns vs as) as os j k x io d1 d2 s l p nc h'))
  (fun h'=>Ex2 fun p nc=>An3 (p≤s.length) (s.cps.toList.drop p=r') (inL c (callEnv Yd L 838) (subB g h env ns vs as) as os j k x io d1 d2 s ⟨32,w,q,e⟩ p nc h')) r.length
  (fun h' H'=>⟨p,r,_,none,rfl,hd,hr,S5 (S7 (S9 (Nat.zero_add _)) hrl) hsz,T,_,_,_,_,_,H'⟩) ?_ ?_
 ·rintro I' JJ o_ QL h' ⟨p,r,l,nc,rfl,hd,hr,hz,H'⟩
  have HH:=H'
  obtain⟨T',te,ts',ln',tn',tt',HL⟩:=HH
  refine Xs (Zm V4) HL ?_
  rw[if_pos rfl]
  cases r with
  | nil=>cases hr
  | cons n r =>
   rw[List.length_cons] at hz
   unfold Y9 at hr
   split at hr
   ·rename_i hh
    obtain⟨h97,hn,hne,hq'⟩:=hh
    refine pre_ch (hA'.mono (by decide)) R' hd H' fun t h₂ H2=>Zh (t_h97 (hA'.mono (by decide)) R' h97 hn (ye hz) hq' ?_ H2) ?_ fun o_ o_ z=>z
    ·have e:=congrArg List.length hd
     rw[List.length_drop,M5,List.length_cons] at e
     exact Nat.lt_sub_iff_add_lt'.mp (e ▸ Nat.succ_lt_succ (Nat.pos_of_ne_zero fun z=>hne (List.length_eq_zero_iff.mp z)))
    ·rintro f h'' ⟨rfl,nc',H''⟩
     simp only[Option.some.injEq,Prod.mk.injEq] at hr
     obtain⟨rfl,hl⟩:=hr
     rw[hl] at H''
     exact⟨s.length,nc',Nat.le_refl _,by rw[List.drop_eq_nil_of_le];rw[M5];exact Nat.le_refl _,H''⟩
   ·split at hr
    ·cases hr
    ·rename_i l' hs
     simp only[Option.some.injEq,Prod.mk.injEq] at hr
     obtain⟨rfl,rfl⟩:=hr
     refine Zh (turn_ok (hA'.mono (by decide)) R' hd hs (ye hz) H') ?_ fun o_ o_ z=>z
     rintro f h'' ⟨rfl,nc',H''⟩
     exact⟨p + 1,nc',drop_lt hd,drop_nx hd,H''⟩
    ·rename_i l' hs
     refine Zh (turn_ok (hA'.mono (by decide)) R' hd hs (ye hz) H') ?_ fun o_ o_ z=>z
     rintro f h'' ⟨rfl,nc',H''⟩
     exact⟨r.length,Nat.lt_succ_self _,p + 1,r,l',nc',rfl,drop_nx hd,hr,S5 (S7 (Nat.add_le_add_right (step_len hs) _) (S9 (Nat.add_right_comm ..))) hz,H''⟩
 ·rintro h' ⟨p',nc,hp',hd',T',te,ts',ln',tn',tt',H'⟩
  refine (?_ : SB c _ _ _ _ _ _ _ _ _ _) h' H'
  refine Zs 4 rfl rfl R'.lx.a_tk ?_
  rintro o_ ⟨t3,rfl⟩
  refine R'.lx.set_tk ev_s ?_
  rintro o_ ⟨t4,rfl⟩
  rw[Zo]
  refine Z7 ((Xq (Ye (d:=true) (Zm R'.lx.a_px) fun o_=>Ye (Yo (Zm (Za 1 rfl rfl))) fun o_=>Ye (Zb (Zk 4 rfl rfl) ev_s Yu) fun o_=>Mc)).cast ?_) ?_
  ·cases q with
   | true=>rfl
   | false =>
    have : (w == Str.ofString "")=false:=by
     rw[beq_eq_false_iff_ne]
     rintro rfl
     exact absurd hq dk
    rw[this];rfl
  refine Z7 ((Zb R'.lx.a_db ev_i gt_ii).cast (by decide)) ?_
  refine Y6 (Za 4 rfl rfl) fun h'' H'' v hv=>⟨⟨t3,hv⟩,p',hp',hd',?_⟩
  have:=(Ho.leave₀ H'').closeSh (P:=isS (ch 32)) R.hk (X7 R.lk) ⟨_,rfl⟩
  rwa [Zo] at this
theorem Sf (hA : Rm A 9) (R : RT g as os j k x dx io di d1 d2 s) (H : Led c env g ns vs as (lz os j k (ioS s p) (shS io d1 d2 (isS (ch 32)) (Str.ofString ""))) h) (hd : s.cps.toList.drop p=[]) (hp : p < 90000) :
 W c A (call (.ref 838) [.ref x]) (fun v h'=>v=.none∧Led c env g ns vs as (lz os j k (ioS s p) (shS io d1 d2 (·=.none) (Str.ofString ""))) h') X h:=by
 refine Zl ?_
 intro Q'
 obtain⟨T,st,ln,tn,tt,⟨ts,rfl⟩,Ho⟩:=H.openSh R.hk (X7 R.lk)
 rw[Zo] at Ho
 have hc : chr s p=Str.ofString "":=by unfold chr;rw[hd];rfl
 have hx : nxt s p=p:=by
  unfold nxt
  rw[if_neg]
  have:=congrArg List.length hd
  rw[List.length_drop,M5,List.length_nil] at this;exact Nat.not_lt_of_le (Nat.le_of_sub_eq_zero this)
 refine Us Ho F_rt hA.depth (B_rt _) rfl dk fun L h₁ H1=>?_
 have R':=R.sub Ho
 have hA':=hA.deep (callEnv Yd L 838)
 refine (?_ : SB c _ _ _ _ _ _ _ _ _ _) h₁ H1
 refine Zs 1 rfl rfl V4 ?_
 rintro o_ rfl
 refine Zs 2 rfl rfl ev_s ?_
 rintro o_ ⟨t2,rfl⟩
 rw[s_b]
 refine Jf (fun m h'=>∃ nc,inL c (callEnv Yd L 838) (subB g h env ns vs as) as os j k x io d1 d2 s ⟨32,Str.ofString "",false,32⟩ p nc h')
  (fun h'=>∃ T te ln tn tt nc,Led c (callEnv Yd L 838) (subB g h env ns vs as) (psRT ++ rsRT) (rtV x false (.str (ch 32) te) nc) as (lz os j k (ioS s p) (atS (shA T io d1 d2 .none (.int ln tn) (.str (Str.ofString "") tt)))) h') 0
  (fun h' H'=>⟨none,T,_,_,_,_,_,H'⟩) ?_ ?_
 ·rintro I' JJ o_ QL h' ⟨nc,H'⟩
  have HH:=H'
  obtain⟨T',te,ts',ln',tn',tt',HL⟩:=HH
  refine Xs (Zm V4) HL ?_
  rw[if_pos rfl]
  refine rt_pre (hA'.mono (by decide)) R' hp (by rw[hc];exact dk) H' fun t h₂ H2=>?_
  rw[hx,hc] at H2
  obtain⟨T2,te2,ts2,ln2,tn2,tt2,H2⟩:=H2
  refine (?_ : SB c _ _ _ _ _ _ _ _ _ _) h₂ H2
  refine Zf (Zb R'.lx.a_st ev_none X6) ?_
  refine Z8 ((Zb R'.lx.a_st ev_s Yu).cast dk) ?_
  refine Z8 ((Yo (Yk (Zk 3 rfl rfl) (X4 dk))).cast dk) ?_
  refine R'.lx.set_st ev_none ?_
  rintro o_ rfl
  rw[Zo]
  exact M1 fun h' H'=>⟨_,_,_,_,_,_,H'⟩
 ·rintro h' ⟨T',te,ln',tn',tt',nc,H'⟩
  refine (?_ : SB c _ _ _ _ _ _ _ _ _ _) h' H'
  refine Zs 4 rfl rfl R'.lx.a_tk ?_
  rintro o_ ⟨t3,rfl⟩
  refine R'.lx.set_tk ev_s ?_
  rintro o_ ⟨t4,rfl⟩
  rw[Zo]
  refine Ym (d:=true) ((Xq (Ye (d:=true) (Zm R'.lx.a_px) fun o_=>Ye (Yo (Zm (Za 1 rfl rfl))) fun o_=>Ye (Zb (Zk 4 rfl rfl) ev_s Yu) fun o_=>Mc)).cast dk) (fun o_=>?_) (fun q=>by cases q)
  refine Zs 4 rfl rfl ev_none ?_
  rintro o_ rfl
  refine Zg fun h₃ H3=>?_
  refine (?_ : SB c _ _ _ _ _ _ _ _ _ _) h₃ H3
  refine Z7 ((Zb R'.lx.a_db ev_i gt_ii).cast (by decide)) ?_
  refine Y6 (Za 4 rfl rfl) fun h'' H'' v hv=>⟨hv,?_⟩
  have:=(Ho.leave₀ H'').closeSh (P:=(·=.none)) R.hk (X7 R.lk) rfl
  rwa [Zo] at this
end
noncomputable abbrev fdGT : FuncData:=Xl (me 30 5) "shlex.get_token" .none (.str "cpy313.shlex" 1227) (.ref 830)
noncomputable abbrev psGT : List PySem.Str:=["self"]
noncomputable abbrev rsGT : List PySem.Str:=["tok","raw","spec","newfile","newstream"]
theorem F_gt : FnK 831 fdGT (fnB (me 30 5)) (psGT ++ rsGT):=⟨fun P=>by kernel_rfl,fun P=>by kernel_rfl,rfl,by kernel_rfl,dk,dk,dk,rfl,rfl,by kernel_rfl,by kernel_rfl⟩
theorem B_gt (a : Value) : bindArgs fdGT ⟨[a],[]⟩=pure (psGT.zip [a]):=by kernel_rfl
noncomputable abbrev fdNX : FuncData:=Xl (me 30 10) "shlex.__next__" .none (.str "cpy313.shlex" 1227) (.ref 866)
noncomputable abbrev psNX : List PySem.Str:=["self"]
noncomputable abbrev rsNX : List PySem.Str:=["token"]
theorem F_nx : FnK 867 fdNX (fnB (me 30 10)) (psNX ++ rsNX):=⟨fun P=>by kernel_rfl,fun P=>by kernel_rfl,rfl,by kernel_rfl,dk,dk,dk,rfl,rfl,by kernel_rfl,by kernel_rfl⟩
theorem B_nx (a : Value) : bindArgs fdNX ⟨[a],[]⟩=pure (psNX.zip [a]):=by kernel_rfl
section
variable {j k : Nat} {x dx io di d1 d2 : Addr} {s : Str} {p : Nat}
theorem RT.lxG (R : RT g as os j k x dx io di d1 d2 s) {T : Nat→Tok}{st ln tk : Value}{v1 v2 v3 v4 v5 : Option Value}{a : Sp} : Lx g (psGT ++ rsGT) [some (.ref x),v1,v2,v3,v4,v5] as (lz os j k a (atS (shA T io d1 d2 st ln tk))) x dx io di d1 d2 k T st ln tk:=
 ⟨R.C,R.hk,X7 R.lk,rfl,rfl⟩
theorem RT.lxN (R : RT g as os j k x dx io di d1 d2 s) {T : Nat→Tok}{st ln tk : Value}{v1 : Option Value}{a : Sp} : Lx g (psNX ++ rsNX) [some (.ref x),v1] as (lz os j k a (atS (shA T io d1 d2 st ln tk))) x dx io di d1 d2 k T st ln tk:=
 ⟨R.C,R.hk,X7 R.lk,rfl,rfl⟩
theorem isnot_nn (h : Heap) (_ : Led c env g ns vs as os h) (a b : Value) (ha : a=.none) (hb : b=.none) : W c A (compareOp .IsNot a b) (fun v h'=>h'=h∧v=.bool false) noX h:=by
 refine Zl ?_
 intro Q'
 subst ha;subst hb;exact Vj rfl ⟨rfl,rfl⟩
theorem get_token_ok {r r' : List Nat}{w : Str}{q : Bool}{e : Nat}(hA : Rm A 10) (R : RT g as os j k x dx io di d1 d2 s) (H : Led c env g ns vs as (lz os j k (ioS s p) (shS io d1 d2 (isS (ch 32)) (Str.ofString ""))) h) (hd : s.cps.toList.drop p=r) (hr : Y9 r ⟨32,Str.ofString "",false,32⟩=some (r',⟨32,w,q,e⟩))
 (hq : (((w.length : Int) != 0) || q)=true) :
 W c A (call (.ref 831) [.ref x]) (fun v h'=>isS w v∧∃ p',p'≤s.length∧s.cps.toList.drop p'=r'∧Led c env g ns vs as (lz os j k (ioS s p') (shS io d1 d2 (isS (ch 32)) (Str.ofString ""))) h') X h:=by
 refine Zl ?_
 intro Q'
 refine Us H F_gt hA.depth (B_gt _) rfl dk fun L h₁ H1=>?_
 have R':=R.sub H
 have hA':=hA.deep (callEnv fdGT L 831)
 obtain⟨T,st,ln,tn,tt,⟨ts,rfl⟩,Ho⟩:=H1.openSh R.hk (X7 R.lk)
 rw[Zo] at Ho
 refine (?_ : SB c _ _ _ _ _ _ _ _ _ _) h₁ Ho
 refine Z7 (Yk R'.lxG.a_pb (tr_dq (.fz R'.C.P))) fun h₂ H2=>?_
 have Hc:=H2.closeSh (P:=isS (ch 32)) R.hk (X7 R.lk) ⟨_,rfl⟩
 rw[Zo] at Hc
 refine Zz (Xd H2 (Za 0 rfl rfl) (.fz R'.C.I) (.ld k R.hk (X7 R.lk)) mk_rt (by kernel_rfl) (Zh (read_token_ok (hA'.mono (by decide)) R' Hc hd hr hq) ?_ fun o_ o_ z=>z))
 rintro o_ h₃ ⟨⟨t,rfl⟩,p',hp',hd',H3⟩
 refine Zp 2 rfl rfl H3 fun h4 H4=>?_
 obtain⟨T2,st2,ln2,tn2,tt2,⟨ts2,rfl⟩,Ho2⟩:=H4.openSh R.hk (X7 R.lk)
 rw[Zo] at Ho2
 refine (?_ : SB c _ _ _ _ _ _ _ _ _ _) h4 Ho2
 refine Z7 (Zb R'.lxG.a_so ev_none isnot_nn) ?_
 refine Jf (fun o_ h'=>Led c (callEnv fdGT L 831) (subB g h env ns vs as) (psGT ++ rsGT) [some (.ref x),none,some (.str w t),none,none,none] as (lz os j k (ioS s p') (atS (shA T2 io d1 d2 (.str (ch 32) ts2) (.int ln2 tn2) (.str (Str.ofString "") tt2)))) h')
  (fun h'=>Led c (callEnv fdGT L 831) (subB g h env ns vs as) (psGT ++ rsGT) [some (.ref x),none,some (.str w t),none,none,none] as (lz os j k (ioS s p') (atS (shA T2 io d1 d2 (.str (ch 32) ts2) (.int ln2 tn2) (.str (Str.ofString "") tt2)))) h') 0 (fun h' H'=>H') (fun o_ h' H'=>?_) fun h' H'=>?_
 ·refine Xs (Zb (Zk 2 rfl rfl) R'.lxG.a_eof eq_sn) H' ?_
  simp only[Bool.false_eq_true,if_false]
  exact H'
 ·refine (?_ : SB c _ _ _ _ _ _ _ _ _ _) h' H'
  refine Z7 ((Zb R'.lxG.a_db ev_i Md).cast (by decide)) ?_
  refine Y6 (Za 2 rfl rfl) fun h'' H'' v hv=>⟨⟨t,hv⟩,p',hp',hd',?_⟩
  have:=(H.leave₀ H'').closeSh (P:=isS (ch 32)) R.hk (X7 R.lk) ⟨_,rfl⟩
  rwa [Zo] at this
theorem get_token_eof (hA : Rm A 10) (R : RT g as os j k x dx io di d1 d2 s) (H : Led c env g ns vs as (lz os j k (ioS s p) (shS io d1 d2 (isS (ch 32)) (Str.ofString ""))) h) (hd : s.cps.toList.drop p=[]) (hp : p < 90000) :
 W c A (call (.ref 831) [.ref x]) (fun v h'=>v=.none∧Led c env g ns vs as (lz os j k (ioS s p) (shS io d1 d2 (·=.none) (Str.ofString ""))) h') X h:=by
 refine Zl ?_
 intro Q'
 refine Us H F_gt hA.depth (B_gt _) rfl dk fun L h₁ H1=>?_
 have R':=R.sub H
 have hA':=hA.deep (callEnv fdGT L 831)
 obtain⟨T,st,ln,tn,tt,⟨ts,rfl⟩,Ho⟩:=H1.openSh R.hk (X7 R.lk)
 rw[Zo] at Ho
 refine (?_ : SB c _ _ _ _ _ _ _ _ _ _) h₁ Ho
 refine Z7 (Yk R'.lxG.a_pb (tr_dq (.fz R'.C.P))) fun h₂ H2=>?_
 have Hc:=H2.closeSh (P:=isS (ch 32)) R.hk (X7 R.lk) ⟨_,rfl⟩
 rw[Zo] at Hc
 refine Zz (Xd H2 (Za 0 rfl rfl) (.fz R'.C.I) (.ld k R.hk (X7 R.lk)) mk_rt (by kernel_rfl) (Zh (Sf (hA'.mono (by decide)) R' Hc hd hp) ?_ fun o_ o_ z=>z))
 rintro o_ h₃ ⟨rfl,H3⟩
 refine Zp 2 rfl rfl H3 fun h4 H4=>?_
 obtain⟨T2,st2,ln2,tn2,tt2,rfl,Ho2⟩:=H4.openSh R.hk (X7 R.lk)
 rw[Zo] at Ho2
 refine (?_ : SB c _ _ _ _ _ _ _ _ _ _) h4 Ho2
 refine Z7 (Zb R'.lxG.a_so ev_none isnot_nn) ?_
 refine Jf (fun o_ h'=>Led c (callEnv fdGT L 831) (subB g h env ns vs as) (psGT ++ rsGT) [some (.ref x),none,some .none,none,none,none] as (lz os j k (ioS s p) (atS (shA T2 io d1 d2 .none (.int ln2 tn2) (.str (Str.ofString "") tt2)))) h')
  (fun h'=>False) 0 (fun h' H'=>H') (fun o_ h' H'=>?_) fun h' H'=>H'.elim
 refine Xs (Zb (Za 2 rfl rfl) R'.lxG.a_eof eq_nn) H' ?_
 rw[if_pos rfl]
 refine (?_ : SB c _ _ _ _ _ _ _ _ _ _) h' H'
 refine Z8 ((Yo (Yk R'.lxG.a_fs (tr_dq (.fz R'.C.F)))).cast rfl) ?_
 refine Y6 R'.lxG.a_eof fun h'' H'' v hv=>⟨hv,?_⟩
 have:=(H.leave₀ H'').closeSh (P:=(·=.none)) R.hk (X7 R.lk) rfl
 rwa [Zo] at this
theorem next_ok {r r' : List Nat}{w : Str}{q : Bool}{e : Nat}(hA : Rm A 11) (R : RT g as os j k x dx io di d1 d2 s) (H : Led c env g ns vs as (lz os j k (ioS s p) (shS io d1 d2 (isS (ch 32)) (Str.ofString ""))) h) (hd : s.cps.toList.drop p=r) (hr : Y9 r ⟨32,Str.ofString "",false,32⟩=some (r',⟨32,w,q,e⟩))
 (hq : (((w.length : Int) != 0) || q)=true) :
 W c A (call (.ref 867) [.ref x]) (fun v h'=>isS w v∧∃ p',p'≤s.length∧s.cps.toList.drop p'=r'∧Led c env g ns vs as (lz os j k (ioS s p') (shS io d1 d2 (isS (ch 32)) (Str.ofString ""))) h') X h:=by
 refine Zl ?_
 intro Q'
 refine Us H F_nx hA.depth (B_nx _) rfl dk fun L h₁ H1=>?_
 have R':=R.sub H
 have hA':=hA.deep (callEnv fdNX L 867)
 obtain⟨T,st,ln,tn,tt,⟨ts,rfl⟩,Ho⟩:=H1.openSh R.hk (X7 R.lk)
 rw[Zo] at Ho
 refine Zz (Xd Ho (Za 0 rfl rfl) (.fz R'.C.I) (.ld k R.hk (X7 R.lk)) mk_gt (by kernel_rfl) (Zh (get_token_ok (hA'.mono (by decide)) R' H1 hd hr hq) ?_ fun o_ o_ z=>z))
 rintro o_ h₃ ⟨⟨t,rfl⟩,p',hp',hd',H3⟩
 refine Zp 1 rfl rfl H3 fun h4 H4=>?_
 obtain⟨T2,st2,ln2,tn2,tt2,⟨ts2,rfl⟩,Ho2⟩:=H4.openSh R.hk (X7 R.lk)
 rw[Zo] at Ho2
 refine (?_ : SB c _ _ _ _ _ _ _ _ _ _) h4 Ho2
 refine Z7 (Zb (Zk 1 rfl rfl) R'.lxN.a_eof eq_sn) ?_
 refine Y6 (Za 1 rfl rfl) fun h'' H'' v hv=>⟨⟨t,hv⟩,p',hp',hd',?_⟩
 have:=(H.leave₀ H'').closeSh (P:=isS (ch 32)) R.hk (X7 R.lk) ⟨_,rfl⟩
 rwa [Zo] at this
theorem w_fnY {f : Addr}{fd : FuncData}{body : List Stmt}{ps rs : List Str}{xs : List Value}{Q : Value→Heap→Prop}{cls : String}{as' : List Addr}{os' : List Sp}(H : Led c env g ns vs as os h) (FA : FR A (env.locals :: g.fs)) (F : FnK f fd body (ps ++ rs)) (hroom : A.depth < recursionLimit)
 (hb : bindArgs fd ⟨xs,[]⟩=pure (ps.zip xs)) (hl : ps.length=xs.length) (hcell : ∀ x∈fd.scope.names,x.2≠.cell) (hlv : ∀ {env' : Env}{ns' : List Str}{vs' : List (Option Value)}{h'},Led c env' (subB g h env ns vs as) ns' vs' as' os' h'→Led c env g ns vs as' os' h')
 (k : ∀ L h₁,FO (A.deeper (callEnv fd L f)) (callEnv fd L f) (subB g h env ns vs as).fs→Led c (callEnv fd L f) (subB g h env ns vs as) (ps ++ rs) (xs.map some ++ List.replicate rs.length none) as os h₁ →
  W c (A.deeper (callEnv fd L f)) (execs body (callEnv fd L f)) (fun fl h₂=>Q (Js fl) h₂) (fun e h₂=>Ex4 fun ea tb h₃ vs'=>An3 (e=.ref ea) (Led c (callEnv fd L f) (subB g h env ns vs as) (ps ++ rs) vs' as' os' h₃) (Fly (L :: (subB g h env ns vs as).fs) h₃ h₂ ea cls tb)) h₁) :
 W c A (call (.ref f) xs) Q (fun e h₂=>Ex2 fun ea o=>An4 (e=.ref ea) (h₂.get? ea=some o) (o.cls=.type cls) (Led c env g ns vs as' os' h₂)) h:=Xy fun kk=>by
 refine codeAny_call_def (s:=stt c h kk) (fd:=fd) (body:=body) (binds:=ps.zip xs) hroom (H.kin _ _ (F.obj _)) rfl (H.bs.lim) (codeRec_of H.kin (F.code _)) F.body (.of_eq hb) hcell (fun x hx=>F.kinds _ (List.mem_append_left _ (List.of_mem_zip hx).1)) (fun h₁ hn hk=>?_) F.co F.gen F.knd
 have L1:=H.enter (F.eo h.objs.size) rfl (by rw[Xi hl F.nd];exact hn) hk
 have FR':=FA.deep (env':=callEnv fd h.objs.size f) F.knd rfl
 refine wpAny_mono (k _ _ FR' L1 _) (fun fl s' q=>?_) fun e s' q=>?_
 ·cases fl <;> exact q
 ·obtain⟨o,ea,tb,h₃,vs',rfl,L3,x⟩:=q
  rw[o.eq]
  unfold leaving
  refine wpAny_bind (M4 (s:=stt c s'.heap s'.toks) FR' L3.frames x fun h₂ T x'=>?_)
  obtain⟨oe,ws,e1,e2,o_⟩:=x'.exc
  exact⟨⟨rfl,rfl,rfl⟩,ea,oe,rfl,e1,e2,hlv (L3.exc x')⟩
theorem next_eof (hA : Rm A 11) (hh : A.handled=none) (FA : FR A (env.locals :: g.fs)) (R : RT g as os j k x dx io di d1 d2 s) (H : Led c env g ns vs as (lz os j k (ioS s p) (shS io d1 d2 (isS (ch 32)) (Str.ofString ""))) h) (hd : s.cps.toList.drop p=[]) (hp : p < 90000) {Q : Value→Heap→Prop} :
 W c A (call (.ref 867) [.ref x]) Q (fun e h₂=>Ex2 fun ea o=>An4 (e=.ref ea) (h₂.get? ea=some o) (o.cls=.type "StopIteration") (Led c env g ns vs as (lz os j k (ioS s p) (shS io d1 d2 (·=.none) (Str.ofString ""))) h₂)) h:=by
 refine Zl ?_
 intro Q'
 refine w_fnY H FA F_nx hA.depth (B_nx _) rfl dk (fun H'=>H.leave₀ H') fun L h₁ FO1 H1=>?_
 have R':=R.sub H
 have hA':=hA.deep (callEnv fdNX L 867)
 obtain⟨T,st,ln,tn,tt,⟨ts,rfl⟩,Ho⟩:=H1.openSh R.hk (X7 R.lk)
 rw[Zo] at Ho
 refine Zz (Xd Ho (Za 0 rfl rfl) (.fz R'.C.I) (.ld k R.hk (X7 R.lk)) mk_gt (by kernel_rfl) (get_token_eof (hA'.mono (by decide)) R' H1 hd hp |> fun z=>Zh (X:=noX) z ?_ fun o_ o_ z=>z.elim))
 rintro o_ h₃ ⟨rfl,H3⟩
 refine Zp 1 rfl rfl H3 fun h4 H4=>?_
 obtain⟨T2,st2,ln2,tn2,tt2,rfl,Ho2⟩:=H4.openSh R.hk (X7 R.lk)
 rw[Zo] at Ho2
 refine (?_ : SB c _ _ _ _ _ _ _ _ _ _) h4 Ho2
 refine Ym (d:=true) (Zb (Za 1 rfl rfl) R'.lxN.a_eof eq_nn) (fun o_ h5 H5=>?_) (fun q=>by cases q)
 refine Yz fun kk=>owsi_raiseC (s:=stt c h5 kk) hh ?_ fun h6 e6 m6=>?_
 ·obtain⟨mg,hg⟩:=H5.bs.gl
  obtain⟨mb,hb,hb'⟩:=H5.bs.bi
  exact Calls.Name_function_global H5.eo.knd (by rfl) (Calls.loadGlobal_builtin (by rw[H5.eo.glob];exact hg) (mg_none_of H5.bs.kin hg (Jq _)) (by rw[H5.eo.bi];exact hb) ((hb' _ (by decide)).trans Xr) ⟨rfl,rfl⟩) (by decide)
 ·have Hc:=H5.closeSh (P:=(·=.none)) R.hk (X7 R.lk) rfl
  rw[Zo] at Hc
  exact⟨⟨rfl,rfl,rfl⟩,e6,none,h5,_,rfl,Hc,Fly.of_new m6.newExc⟩
end
theorem lx_iter (P : Params) : findIn (K P) (.ref 870) "__iter__"=some (some (.ref 860)):=by kernel_rfl
theorem lx_next (P : Params) : findIn (K P) (.ref 870) "__next__"=some (some (.ref 867)):=by kernel_rfl
theorem lx_len (P : Params) : findIn (K P) (.ref 870) "__len__"=some none:=by kernel_rfl
theorem lx_hint (P : Params) : findIn (K P) (.ref 870) "__length_hint__"=some none:=by kernel_rfl
theorem lx_f1 (P : Params) : isFn (K P) (.ref 860)=true:=by kernel_rfl
theorem lx_f2 (P : Params) : isFn (K P) (.ref 867)=true:=by kernel_rfl
noncomputable abbrev fdIT : FuncData:=Xl (me 30 9) "shlex.__iter__" .none (.str "cpy313.shlex" 1227) (.ref 859)
noncomputable abbrev psIT : List PySem.Str:=["self"]
theorem F_it : FnK 860 fdIT (fnB (me 30 9)) (psIT ++ []):=⟨fun P=>by kernel_rfl,fun P=>by kernel_rfl,rfl,by kernel_rfl,dk,dk,dk,rfl,rfl,by kernel_rfl,by kernel_rfl⟩
theorem B_it (a : Value) : bindArgs fdIT ⟨[a],[]⟩=pure (psIT.zip [a]):=by kernel_rfl
inductive Toks : List Nat→List Str→Prop
 | nil : Toks [] []
 | cons {r r' : List Nat}{w : Str}{q : Bool}{e : Nat}{ws : List Str}(hr : Y9 r ⟨32,Str.ofString "",false,32⟩=some (r',⟨32,w,q,e⟩)) (hq : (((w.length : Int) != 0) || q)=true) (t : Toks r' ws) : Toks r (w :: ws)
section
variable {j k : Nat} {x dx io di d1 d2 : Addr} {s : Str} {p : Nat}
theorem Vo {P : Value→Prop}(R : RT g as os j k x dx io di d1 d2 s) (H : Led c env g ns vs as (lz os j k (ioS s p) (shS io d1 d2 P (Str.ofString ""))) h) : ∃ od,PySem.W.InstAt h x (Z9 870 dx) 870 od:=by
 obtain⟨T,st,ln,tn,tt,hst,Ho⟩:=H.openSh R.hk (X7 R.lk)
 obtain⟨es,n,i,o_⟩:=Uv Ho (.fz R.C.I) (.ld k R.hk (by rw[Zo];exact X7 R.lk))
 exact⟨_,i⟩
theorem pn_ok {r r' : List Nat}{w : Str}{q : Bool}{e : Nat}(hA : Rm A 11) (R : RT g as os j k x dx io di d1 d2 s) (H : Led c env g ns vs as (lz os j k (ioS s p) (shS io d1 d2 (isS (ch 32)) (Str.ofString ""))) h) (hd : s.cps.toList.drop p=r) (hr : Y9 r ⟨32,Str.ofString "",false,32⟩=some (r',⟨32,w,q,e⟩))
 (hq : (((w.length : Int) != 0) || q)=true) :
 W c A (pyNext (.ref x)) (fun o h'=>Ex1 fun v=>An3 (o=some v) (isS w v) (Ex1 fun p'=>An3 (p'≤s.length) (s.cps.toList.drop p'=r') (Led c env g ns vs as (lz os j k (ioS s p') (shS io d1 d2 (isS (ch 32)) (Str.ofString ""))) h'))) noX h:=fun kk=>by
 obtain⟨od,i⟩:=Vo R H
 exact owit_next (s:=stt c h kk) H.fr H.base.kin i (lx_next _) (lx_f2 _) (wpAny_mono (next_ok (X:=noX) hA R H hd hr hq kk) (fun v s' q=>by obtain⟨o,a,p,b,d,e⟩:=q;exact⟨o,v,rfl,a,p,b,d,e⟩) fun o_ o_ q=>q.2.elim)
theorem pn_eof (hA : Rm A 11) (hh : A.handled=none) (FA : FR A (env.locals :: g.fs)) (R : RT g as os j k x dx io di d1 d2 s) (H : Led c env g ns vs as (lz os j k (ioS s p) (shS io d1 d2 (isS (ch 32)) (Str.ofString ""))) h) (hd : s.cps.toList.drop p=[]) (hp : p < 90000) :
 W c A (pyNext (.ref x)) (fun o h'=>o=none∧Led c env g ns vs as (lz os j k (ioS s p) (shS io d1 d2 (·=.none) (Str.ofString ""))) h') noX h:=fun kk=>by
 obtain⟨od,i⟩:=Vo R H
 refine owit_next (s:=stt c h kk) H.fr H.base.kin i (lx_next _) (lx_f2 _) (wpAny_mono (next_eof hA hh FA R H hd hp (Q:=fun o_ o_=>False) kk) (fun v s' q=>q.2.elim) fun e s' q=>?_)
 obtain⟨o,ea,ob,rfl,h1,h2,H'⟩:=q
 unfold OwitStop
 refine wpAny_isInstance (T:="StopIteration") ⟨ob,h1,h2⟩ owsi_facts.sub ?_
 rw[if_pos rfl]
 exact⟨o,rfl,H'⟩
theorem it_ok {P : Value→Prop}(hA : Rm A 2) (R : RT g as os j k x dx io di d1 d2 s) (H : Led c env g ns vs as (lz os j k (ioS s p) (shS io d1 d2 P (Str.ofString ""))) h) :
 W c A (pyIter (.ref x)) (fun v h'=>v=.ref x∧Led c env g ns vs as (lz os j k (ioS s p) (shS io d1 d2 P (Str.ofString ""))) h') noX h:=fun kk=>by
 obtain⟨od,i⟩:=Vo R H
 have z : W c A (call (.ref 860) [.ref x]) (fun v h'=>v=.ref x∧Led c env g ns vs as (lz os j k (ioS s p) (shS io d1 d2 P (Str.ofString ""))) h') noX h:=by
  refine Us H F_it hA.depth (B_it _) rfl dk fun L h₁ H1=>?_
  refine (?_ : SB c _ _ _ _ _ _ _ _ _ _) h₁ H1
  exact Y6 (Za 0 rfl rfl) fun h'' H'' v hv=>⟨hv,H.leave₀ H''⟩
 refine owit_iter (s:=stt c h kk) H.fr H.base.kin i (lx_iter _) (lx_f1 _) (wpAny_mono (z kk) (fun v s' q=>?_) fun o_ o_ q=>q)
 obtain⟨o,rfl,H'⟩:=q
 obtain⟨od',i'⟩:=Vo R H'
 exact owit_it H'.fr H'.base.kin i' (lx_next _) ⟨o,rfl,H'⟩
theorem Ta {a b : Sp}{r : List Sp}(hj : j < os.length) (hk : k < os.length) : lz (os ++ r) j k a b=lz os j k a b ++ r:=by
 unfold lz;rw[Z6 hj,Z6 (by rw[List.length_set];exact hk)]
theorem RT.app (R : RT g as os j k x dx io di d1 d2 s) (a : List Addr) (r : List Sp) : RT g (as ++ a) (os ++ r) j k x dx io di d1 d2 s:=
 ⟨R.C,ap R.hj _,ap R.hk _,by rw[List.length_append];exact Nat.lt_add_right _ R.lj,by rw[List.length_append];exact Nat.lt_add_right _ R.lk,R.ne,R.hz,R.nl⟩
theorem lz_len {a b : Sp} : (lz os j k a b).length=os.length:=by unfold lz;simp
theorem Rm.in1 {A : Around}{n : Nat}(r : Rm A (n + 1)) : Rm A.in1 n:=by
 obtain⟨a,b⟩:=r
 constructor
 ·show A.depth + n < 700;exact Nat.lt_of_succ_lt ‹_›
 ·exact xq (k:=1) (by decide) b
theorem ext_all {r : List Nat}{ws : List Str}{S : Addr}(t : Toks r ws) : ∀ {acc : List Value}{p : Nat}{h : Heap}(hA : Rm A.in1 11) (hh : A.handled=none) (FA : FR A (env.locals :: g.fs)) (R : RT g as os j k x dx io di d1 d2 s) (hl : as.length=os.length) (H : Led c env g ns vs (as ++ [S]) (lz os j k (ioS s p) (shS io d1 d2 (isS (ch 32)) (Str.ofString "")) ++ [.li acc]) h) (hd : s.cps.toList.drop p=r) (hp : p < 90000) (hz : acc.length + ws.length < 1000),
 CD c A (.builtin "list.extend.loop" ⟨[.ref S,.ref x,.none],[]⟩) (Ul (fun v h'=>v=.none∧∃ us p',Paired (fun w v=>isS w v) ws us∧Led c env g ns vs (as ++ [S]) (lz os j k (ioS s p') (shS io d1 d2 (·=.none) (Str.ofString "")) ++ [.li (acc ++ us)]) h') noX) h:=by
 induction t with
 | nil =>
  intro acc p h hA hh FA R hl H hd hp hz
  refine J9 ?_
  intro Q' kk
  refine codeAny_builtin F.entry_extend_loop ?_
  rw[Around.under_plainId F.plain_extend_loop _]
  refine Jd ?_
  intro Q2 X2
  show wpAny _ A.in1 (pyNext (.ref x) >>= _) _ _ _
  rw[← Ta R.lj R.lk] at H
  refine wpAny_bind (wpAny_mono (pn_eof (A:=A.in1) hA hh ⟨FA.fr⟩ (R.app [S] _) H hd hp kk) (fun o s' q=>?_) fun o_ o_ q=>q.2.elim)
  obtain⟨o',rfl,H'⟩:=q
  rw[Ta R.lj R.lk] at H'
  refine wpAny_pure ⟨o',rfl,[],p,.nil,?_⟩
  rw[List.append_nil];exact H'
 | cons hr hq t ih =>
  intro acc p h hA hh FA R hl H hd hp hz
  refine J9 ?_
  intro Q' kk
  rename_i r r' w q e ws
  rw[List.length_cons] at hz
  refine codeAny_builtin F.entry_extend_loop ?_
  rw[Around.under_plainId F.plain_extend_loop _]
  refine Jd ?_
  intro Q2 X2
  show wpAny _ A.in1 (pyNext (.ref x) >>= _) _ _ _
  rw[← Ta R.lj R.lk] at H
  refine wpAny_bind (wpAny_mono (pn_ok (A:=A.in1) hA (R.app [S] _) H hd hr hq kk) (fun o s' q=>?_) fun o_ o_ q=>q.2.elim)
  obtain⟨o',v,rfl,hv,p',hp',hd',H'⟩:=q
  rw[Ta R.lj R.lk] at H'
  rw[o'.eq]
  have hl2 : as.length=(lz os j k (ioS s p') (shS io d1 d2 (isS (ch 32)) (Str.ofString ""))).length:=by rw[lz_len,hl]
  obtain⟨n,hn⟩:=(H'.at_ as.length S (.li acc) (Ze rfl) (Ze hl2)).li
  show wpAny _ A.in1 (updateSeq S (·.push v) >>= _) _ _ _
  refine wpAny_bind (wpAny_updateSeq (s:=stt c s'.heap s'.toks) hn rfl (wpAny_pure ⟨plainId_quiet F.plain_extend_loop _,?_⟩) (by rw[sizeLine_eq];simp;exact Na (S8 (ye hz) (by decide))) (by rw[sizeLine_eq];simp;lia))
  have H2:=H'.upd_li (i:=as.length) (f:=(·.push v)) (l':=acc ++ [v]) (Ze rfl) (Ze hl2) hn (by simp)
  rw[Yt hl2] at H2
  refine codeAny_mono (ih hA hh FA R hl H2 hd' (by have:=R.hz;exact r5 ‹_› ‹_›) (by simp;exact S5 (S9 (Nat.add_right_comm ..)) hz) s'.toks) fun r' s2 z=>?_
  cases r' with
  | error e=>exact z.2.elim
  | ok f =>
   cases f with
   | ret rv =>
    obtain⟨z1,z2,us,p2,z3,z4⟩:=z
    exact⟨z1,z2,v :: us,p2,.cons hv z3,by rw[List.append_assoc] at z4;exact z4⟩
   | _=>exact z.2.elim
theorem listOwn {ws : List Str}{Q : Value→Heap→Prop}(hA : Rm A 13) (hh : A.handled=none) (FA : FR A (env.locals :: g.fs)) (R : RT g as os j k x dx io di d1 d2 s) (hl : as.length=os.length) (H : Led c env g ns vs as (lz os j k (ioS s 0) (shS io d1 d2 (isS (ch 32)) (Str.ofString ""))) h) (t : Toks s.cps.toList ws) (hz : ws.length < 1000)
 (q : ∀ S us p' h',Paired (fun w v=>isS w v) ws us→Led c env g ns vs (as ++ [S]) (lz os j k (ioS s p') (shS io d1 d2 (·=.none) (Str.ofString "")) ++ [.li us]) h'→Q (.ref S) h') : W c A (call (.type "list") [.ref x]) Q X h:=fun kk=>by
 have hSx : h.objs.size≠x:=fun e=>by
  obtain⟨o,e1,o_⟩:=R.C.I
  have:=Heap.lt_size (H.keep _ _ e1)
  rw[← e] at this
  exact Nat.lt_irrefl _ this
 have hl2 : as.length=(lz os j k (ioS s 0) (shS io d1 d2 (isS (ch 32)) (Str.ofString ""))).length:=by rw[lz_len,hl]
 refine callType_codes (Q₁:=fun obj s1=>obj=.ref h.objs.size∧s1={ stt c h kk with heap:=h.push { cls:=.type "list",data:=.seq #[] } }) PySem.F.called_list (PySem.F.typeCall_list_1 _) PySem.F.entry_list_init
  (code_list_new (s:=stt c h kk) _ ⟨rfl,rfl⟩) fun obj s1 h₁=>?_
 obtain⟨rfl,rfl⟩:=h₁
 have H1:=H.newL []
 have hS : (h.push { cls:=.type "list",data:=.seq #[] }).get? h.objs.size=some { cls:=.type "list",data:=.seq #[] }:=Heap.get?_push_size _ rfl
 refine⟨⟨_,hS,rfl⟩,PySem.F.args_list_init_2 _ _,?_⟩
 show wpAny _ A.in1.in1 (do let old ← Builtin.List.listItems (.ref h.objs.size);Builtin.List.listUpdate (.ref h.objs.size) (fun o_=>#[]);letGo old.toList.reverse;Builtin.List.listExtendWith (.ref h.objs.size) (.ref x) .none) _ _ _
 refine wpAny_bind ?_
 unfold Builtin.List.listItems
 refine wpAny_bind (wpAny_seqItems hS rfl (wpAny_pure ?_))
 show wpAny _ A.in1.in1 (updateSeq h.objs.size (fun o_=>#[]) >>= fun o_=>letGo (#[] : Array Value).toList.reverse >>= fun o_=>Builtin.List.listExtendWith (.ref h.objs.size) (.ref x) .none) _ _ _
 refine wpAny_bind (wpAny_updateSeq hS rfl ?_)
 have H2:=H1.upd_li (i:=as.length) (f:=fun o_=>#[]) (l':=[]) (Ze rfl) (Ze hl2) hS (by simp)
 rw[Yt hl2] at H2
 have hS2:=Heap.get?_update_self (Obj.mapSeq (fun o_=>(#[] : Array Value))) hS rfl
 refine wpAny_bind (wpAny_letGo ?_)
 generalize hh2 : ((h.push { cls:=.type "list",data:=.seq #[] }).update h.objs.size (Obj.mapSeq (fun o_=>(#[] : Array Value))))=h2 at H2 hS2 ⊢
 generalize hSS : h.objs.size=S at *
 have H3:=H2
 rw[← Ta R.lj R.lk] at H3
 obtain⟨od,i⟩:=Vo (R.app [S] [.li []]) H3
 unfold Builtin.List.listExtendWith
 refine wpAny_bind (i.type.here ?_)
 have h1 : Builtin.List.listSameRef (.ref S) (.ref x)=false:=by simp[Builtin.List.listSameRef,hSx]
 have h2' : (Value.ref 870 == Value.type "list")=false:=by decide
 have h3 : (Value.ref 870 == Value.type "tuple")=false:=by decide
 simp only[h1,h2',h3,Bool.or_false,Bool.false_eq_true,if_false]
 refine wpAny_bind (wpAny_mono (it_ok (A:=A.in1.in1) (p:=0) (hA.in1.in1.mono (by decide)) (R.app [S] [.li []]) H3 kk) (fun v s' z=>?_) fun o_ o_ z=>z.2.elim)
 obtain⟨o',rfl,H4⟩:=z
 rw[o'.eq]
 generalize s'.heap=h4 at *
 generalize s'.toks=k4 at *
 obtain⟨od4,i4⟩:=Vo (R.app [S] [.li []]) H4
 refine wpAny_bind (wpAny_holding ?_)
 unfold Builtin.List.listLengthHint
 refine wpAny_bind (wpAny_bind (i4.type.here ((looks_findIn H4.kin (lx_len _)).here ?_)))
 show wpAny _ A.in1.in1 (specialOf (Value.ref x) (Str.ofString "__length_hint__") >>= _) _ _ _
 refine wpAny_bind (wpAny_bind (i4.type.here ((looks_findIn H4.kin (lx_hint _)).here ?_)))
 refine wpAny_pure ?_
 show wpAny _ A.in1.in1 (rule "list.extend.makes-room" >>= fun o_=>Builtin.List.listTouch (.ref S) >>= fun o_ =>
  again (.builtin "list.extend.loop" ⟨[.ref S,.ref x,.none],[]⟩)) _ _ _
 refine wpAny_bind (wpAny_rule ?_)
 refine wpAny_bind ?_
 show wpAny _ A.in1.in1 (updateSeq S (·.push .none) >>= fun o_=>updateSeq S (·.pop)) _ _ _
 rw[Ta R.lj R.lk] at H4
 obtain⟨n4,hn4⟩:=(H4.at_ as.length S (.li []) (Ze rfl) (Ze hl2)).li
 have H5:=H4.upd_li (i:=as.length) (f:=(·.push .none)) (l':=[.none]) (Ze rfl) (Ze hl2) hn4 (by simp)
 rw[Yt hl2] at H5
 obtain⟨n5,hn5⟩:=(H5.at_ as.length S (.li [.none]) (Ze rfl) (Ze hl2)).li
 have H6:=H5.upd_li (i:=as.length) (f:=(·.pop)) (l':=[]) (Ze rfl) (Ze hl2) hn5 (by simp)
 rw[Yt hl2] at H6
 refine wpAny_bind (wpAny_updateSeq (s:=stt c h4 k4) hn4 rfl ?_ (by rw[sizeLine_eq];simp) (by rw[sizeLine_eq];simp))
 refine wpAny_updateSeq hn5 rfl ?_ (by rw[sizeLine_eq];simp) (by rw[sizeLine_eq];simp)
 refine wpAny_pure ⟨plainId_quiet PySem.F.plain_extend_loop _,?_⟩
 refine codeAny_mono (ext_all (A:=A.in1) t hA.in1.in1 hh ⟨FA.fr⟩ R hl H6 rfl (by decide) (by simpa using hz) k4) fun r' s2 z=>?_
 cases r' with
 | error e=>exact z.2.elim
 | ok f =>
  cases f with
  | ret rv =>
   obtain⟨z1,rfl,us,p2,z3,z4⟩:=z
   exact⟨rfl,z1,q S us p2 _ z3 z4⟩
  | _=>exact z.2.elim
end
theorem pk_here (P : Params) : peek (K P) ⟨prg,P⟩ (Bind.madeHere "object.__new__" (.ref 735))=some ():=by kernel_rfl
theorem pk_made (P : Params) : peek (K P) ⟨prg,P⟩ (Bind.madeBy (.ref 735))=some none:=by kernel_rfl
theorem pk_isT (P : Params) : peek (K P) ⟨prg,P⟩ (isType (.ref 735))=some true:=by kernel_rfl
theorem pk_mro (P : Params) : peek (K P) ⟨prg,P⟩ (mroOf (.ref 735))=some [.ref 735,.ref 258,.ref 231,.type "object"]:=by kernel_rfl
theorem pk_sub (P : Params) : peek (K P) ⟨prg,P⟩ (isSubtype (.ref 735) (.ref 735))=some true:=by kernel_rfl
theorem pk_top (P : Params) : peek (K P) ⟨prg,P⟩ (isSubtype (.ref 735) (.type "object"))=some true:=by kernel_rfl
theorem pk_inst (P : Params) : peek (K P) ⟨prg,P⟩ (isInstance (.ref 735) (.type "type"))=some true:=by kernel_rfl
theorem pk_call (P : Params) : peek (K P) ⟨prg,P⟩ (specialOf (.ref 735) "__call__")=some (some (.builtin "type.__call__")):=by kernel_rfl
theorem pk_base (P : Params) : peek (K P) ⟨prg,P⟩ (Bind.staticBase (.ref 735))=some (.type "object"):=by kernel_rfl
theorem pk_mobj (P : Params) : peek (K P) ⟨prg,P⟩ (Bind.madeBy (.type "object"))=some (some "object.__new__"):=by kernel_rfl
section
variable {c : Cx} {A : Around} {h : Heap} {g : Array GenState} {d : Drawn} {t : Nat} {os : OsState} {R : Result → Shared → Prop}
theorem newIO (X : (K c.w.params).In h) (hq : R (.ok (.ret (.ref (h.objs.size + 1)))) ⟨(h.push emptyDict).push (instObj 735 h.objs.size),g,d,t,os⟩) :
 codeAny (mdl c) A (.call (.builtin "object.__new__") ⟨[.ref 735],[]⟩) R ⟨h,g,d,t,os⟩:=by
 have F:=PySem.F.objNew
 refine codeAny_call_builtin_code (Code.quiet_builtin _ F.quiet) ?_
 unfold checkBuiltinCall
 rw[F.kind,F.split,F.row]
 dsimp only
 have here : Looks (model prg c.w) h (Bind.madeHere "object.__new__" (.ref 735)) ():=Looks.of_peek X (pk_here c.w.params)
 have isT : Looks (model prg c.w) h (isType (.ref 735)) true:=Looks.of_peek X (pk_isT c.w.params)
 have top : Looks (model prg c.w) h (isSubtype (.ref 735) (.type "object")) true:=Looks.of_peek X (pk_top c.w.params)
 have args : Bind.checkArgs "object.__new__" ⟨.hand,"object.__new__","__new__",.cls,[]⟩ ⟨[.ref 735],[]⟩=pure ():=by kernel_rfl
 rw[args]
 have base : Looks (model prg c.w) h (Bind.staticBase (.ref 735)) (.type "object"):=Looks.of_peek X (pk_base c.w.params)
 have mobj : Looks (model prg c.w) h (Bind.madeBy (.type "object")) (some "object.__new__"):=Looks.of_peek X (pk_mobj c.w.params)
 repeat (first | rw[if_neg Bool.false_ne_true] | rw[bne_self_eq_false] | lk)
 refine codeAny_builtin F.entry ?_
 unfold Builtin.«object.__new__»
 have hC : h.get? 735=some (o735 c.w.params):=X 735 _ (by kernel_rfl)
 repeat (first | rw[if_neg Bool.false_ne_true] | lk)
 refine nd_load (Heap.get?_push_of_some _ (Heap.get?_push_of_some _ hC)) ?_
 repeat lk
 rw[Heap.size_push];exact hq
end
noncomputable abbrev fdNW : FuncData:=Xl (me 17 1) "IOBase.__new__" .none (.str "io" 512) (.ref 227)
noncomputable abbrev psNW : List PySem.Str:=["cls","args","kwargs"]
theorem F_nw : FnK 228 fdNW (fnB (me 17 1)) (psNW ++ []):=⟨fun P=>by kernel_rfl,fun P=>by kernel_rfl,rfl,by kernel_rfl,dk,dk,dk,rfl,rfl,by kernel_rfl,by kernel_rfl⟩
theorem B_nw (a b : Value) : bindArgs fdNW ⟨[a,b],[]⟩=(newTuple [b] >>= fun t=>alloc emptyDict >>= fun d=>pure (psNW.zip [a,t,.ref d])):=by kernel_rfl
theorem n_bio (P : Params) : nsIn (K P) mainGlobals "BytesIO"=some (some (.ref 488)):=by kernel_rfl
theorem n_sio (P : Params) : nsIn (K P) mainGlobals "StringIO"=some (some (.ref 735)):=by kernel_rfl
theorem n_object (P : Params) : nsIn (K P) mainGlobals "object"=some none:=by kernel_rfl
theorem k_sio : Jc 735:=fun P=>by kernel_rfl
theorem fc_new (P : Params) : findCls (K P) (.type "object") (.type "type") "__new__"=some (.val (.builtin "object.__new__")):=by kernel_rfl
theorem fc_new735 (P : Params) : findCls (K P) (.ref 735) (.type "type") "__new__"=some (.get (.builtin "staticmethod.__get__") (.ref 232) .none (.ref 735)):=by kernel_rfl
theorem rd_735 (P : Params) : readsIn (K P) 735 (.type "type")=true:=by kernel_rfl
theorem rec_232 (P : Params) : recIn (K P) 232 "staticmethod"=some [.ref 228]:=by kernel_rfl
theorem stub_obj : Manifest.isStub "object"=false:=dk
theorem ty_obj : typeOf (.type "object")=pure (.type "type"):=by kernel_rfl
theorem isnot_rs {x : Addr}(h : Heap) (_ : Led c env g ns vs as os h) (a b : Value) (ha : a=.ref x) (hb : b=.ref x) : W c A (compareOp .IsNot a b) (fun v h'=>h'=h∧v=.bool false) noX h:=fun k=>by
 subst ha;subst hb;exact wpAny_isNot_ref_self ⟨⟨rfl,rfl,rfl⟩,rfl,rfl⟩
theorem isnot_rk {x y : Addr}{ox oy : Params→Obj}(hxy : x≠y) (hx : ∀ P,(K P).lookup x=some (ox P)) (hy : ∀ P,(K P).lookup y=some (oy P)) (ht : ∀ P,(ox P).cls≠.type "tuple") (h : Heap) (H : Led c env g ns vs as os h) (a b : Value) (ha : a=.ref x) (hb : b=.ref y) : W c A (compareOp .IsNot a b) (fun v h'=>h'=h∧v=.bool true) noX h:=fun k=>by
 subst ha;subst hb;exact wpAny_isNot_ref_other hxy (H.kin _ _ (hx _)) (H.kin _ _ (hy _)) (ht _) ⟨⟨rfl,rfl,rfl⟩,rfl,rfl⟩
theorem nw_ok {v : Value}(hA : Rm A 3) (H : Led c env g ns vs as os h) : CD c A (.call (.ref 228) ⟨[.ref 735,v],[]⟩) (Ul (fun r h'=>∃ dx x,r=.ref x∧Led c env g ns vs (as ++ [dx] ++ [x]) (os ++ [atS []] ++ [Sp.ob (Z9 735 dx)]) h') noX) h:=fun kk=>by
 refine codeAny_call_function (s:=stt c h kk) hA.depth (H.kin _ _ (F_nw.obj _)) rfl F_nw.co F_nw.gen F_nw.body (codeRec_of H.kin (F_nw.code _)) ?_
 rw[B_nw]
 have H0:=H.push { cls:=.type "tuple",data:=.seq #[v] }
 refine wpAny_bind (wpAny_newTuple (s:=stt c h kk) (wpAny_bind (wpAny_alloc (wpAny_pure ?_))) (by rw[sizeLine_eq];simp))
 have H1:=H0.push emptyDict
 refine wpAny_newFunctionEnv (s:=stt c ((h.push { cls:=.type "tuple",data:=.seq #[v] }).push emptyDict) kk) dk (fun x hx=>F_nw.kinds _ (List.mem_append_left _ (List.of_mem_zip hx).1)) (fun h₁ hn hsb=>⟨H1.bs.lim.fresh _ hsb,codeAny_func ?_⟩) F_nw.knd
 have hk : ∀ b o,((h.push { cls:=.type "tuple",data:=.seq #[v] }).push emptyDict).get? b=some o→h₁.get? b=some o:=fun b o e=>hsb.extBut b o (Nat.ne_of_lt (Heap.lt_size e)) (Heap.get?_push_of_some _ e)
 have L1:=H1.enter (env':=callEnv fdNW ((h.push { cls:=.type "tuple",data:=.seq #[v] }).push emptyDict).objs.size 228) (F_nw.eo _) rfl (by rw[Xi (xs:=[.ref 735,.ref h.objs.size,.ref (h.push { cls:=.type "tuple",data:=.seq #[v] }).objs.size]) rfl F_nw.nd];exact hn) hk
 have main : W c (A.deeper (callEnv fdNW ((h.push { cls:=.type "tuple",data:=.seq #[v] }).push emptyDict).objs.size 228)) (execs (fnB (me 17 1)) (callEnv fdNW ((h.push { cls:=.type "tuple",data:=.seq #[v] }).push emptyDict).objs.size 228)) (fun fl h₂=>∃ dx x,Js fl=.ref x∧Led c env g ns vs (as ++ [dx] ++ [x]) (os ++ [atS []] ++ [Sp.ob (Z9 735 dx)]) h₂) noX h₁:=by
  refine (?_ : SB c _ _ _ _ _ _ _ _ _ _) h₁ L1
  refine Ym (d:=false) ((Ys (d:=true) (e:=false) (Zb (Za 0 rfl rfl) (Xm (by rfl) n_bio) (isnot_rk (ox:=o735) (oy:=o488) (by decide) (fun P=>by kernel_rfl) (fun P=>by kernel_rfl) (fun P=>by show Value.type "type"≠_;decide))) (fun o_=>Zb (Za 0 rfl rfl) (Xm (by rfl) n_sio) isnot_rs)).cast rfl) (fun q=>by cases q) fun o_=>Zg fun h₂ H2=>?_
  refine (?_ : SB c _ _ _ _ _ _ _ _ _ _) h₂ H2
  refine J8 fun h₃ H3 k3=>?_
  refine methodCall_KW (pl:=_) (wpAny_mono ((Zr (by rfl) n_object boot_object : EV c _ _ _ _ _ _ _ _ _) h₃ H3 k3) (fun ov s1 q=>?_) fun o_ o_ q=>⟨q.1,q.2.elim⟩) (by rfl)
  obtain⟨q1,q2,q3⟩:=q
  subst q3
  rw[q1.eq,q2]
  refine (show wpAny (mdl c) (A.deeper (callEnv fdNW ((h.push { cls:=.type "tuple",data:=.seq #[v] }).push emptyDict).objs.size 228)) (getMethod (.type "object") (Str.ofString "__new__") _) _ _ (stt c h₃ s1.toks) from method_type (K:=K c.w.params) (T:="object") (v:=.builtin "object.__new__") H3.fr H3.base.kin ty_obj stub_obj (fc_new c.w.params) rfl ?_)
  refine Calls.callWith_builtin (first:=[]) (by rfl) (Calls.evalArgs_plain (wpAny_items_cons (wpAny_mono ((Za 0 rfl rfl : EV c _ _ _ _ _ _ _ _ _) h₃ H3 _) (fun v s2 q=>wpAny_items_nil ?_) fun o_ o_ q=>q) (by rfl)))
  obtain⟨q4,q5,q6⟩:=q
  subst q6
  rw[q4.eq,q5]
  refine wpAny_call (newIO H3.kin ⟨⟨rfl,rfl,rfl⟩,h₃.objs.size,h₃.objs.size + 1,rfl,?_⟩)
  have H4:=H3.alloc (o:=emptyDict) (sp:=atS []) rfl ⟨[],0,rfl,.nil⟩
  have H5:=H4.alloc (o:=instObj 735 h₃.objs.size) (sp:=.ob (Z9 735 h₃.objs.size)) rfl rfl
  have:=H1.leave₀ H5
  rw[Heap.size_push] at this
  exact this
 refine wpAny_mono (main _) (fun fl s' q=>?_) fun o_ o_ q=>q.2.elim
 cases fl <;> exact q
noncomputable abbrev fdII : FuncData:=Xl (me 21 1) "StringIO.__init__" (.ref 498) (.str "io" 512) (.ref 504)
noncomputable abbrev psII : List PySem.Str:=["self","initial_value","newline"]
theorem F_ii : FnK 505 fdII (fnB (me 21 1)) (psII ++ []):=⟨fun P=>by kernel_rfl,fun P=>by kernel_rfl,rfl,by kernel_rfl,dk,dk,dk,rfl,rfl,by kernel_rfl,by kernel_rfl⟩
theorem B_ii {s : Shared}{P : Params}(X : (K P).In s.heap) (a b : Value) : BindsTo s fdII ⟨[a,b],[]⟩ (psII.zip [a,b,.str nlS 897]):=
 binds_K (K:=K P) (T:=498) (o:=o498 P) (items:=#[.str "" 896,.str "\n" 897]) (n:=0) X rfl (by kernel_rfl) rfl rfl rfl
theorem fi_735 (P : Params) : findIn (K P) (.ref 735) "__init__"=some (some (.ref 505)):=by kernel_rfl
theorem ty_505 (P : Params) : typeIn (K P) (.ref 505)=some (.type "function"):=by kernel_rfl
theorem ioinit_cd {x dx : Addr}{s : Str}{t : Tok}{j : Nat}(hA : Rm A 4) (H : Led c env g ns vs as os h) (I : ∀ sp,Loc g as (os.set j sp) x (.ob (Z9 735 dx))) (ha : as[j]?=some dx) (ho : os[j]?=some (atS [])) :
 CD c A (.call (.ref 505) ⟨[.ref x,.str s t],[]⟩) (Ul (fun v h'=>v=.none∧Led c env g ns vs as (os.set j (ioS s 0)) h') noX) h:=by
 refine J9 ?_
 intro Q'
 have jl:=Zn ho
 refine S4 (ps:=psII) (rs:=[]) (zs:=[.ref x,.str s t,.str nlS 897]) H F_ii hA.depth (fun k=>B_ii (P:=c.w.params) H.kin _ _) rfl dk fun L h₁ H1=>?_
 have hA':=hA.deep (callEnv fdII L 505)
 have og : ∀ {a : Sp},(os.set j a)[j]?=some a:=fun {a}=>List.getElem?_set_self jl
 have I' : ∀ {sp : Sp},Loc (subB g h env ns vs as) as (os.set j sp) x (.ob (Z9 735 dx)):=fun {sp}=>(I sp).monoG H.stay
 have I0 : Loc (subB g h env ns vs as) as os x (.ob (Z9 735 dx)):=by have:=I' (sp:=atS []);rwa [Xh ho] at this
 refine (?_ : SB c _ _ _ _ _ _ _ _ _ _) h₁ H1
 refine Ym (d:=false) ((Ys (d:=true) (e:=false) (Zb (Zk 2 rfl rfl) ev_none V6) (fun o_=>(Zb (ev_type (Zr (by rfl) n_type PyProof.Rows.boot_type) (Zk 2 rfl rfl) (fun v s h=>tyS v s h) (by decide)) (Zr (by rfl) n_str PyProof.Rows.boot_str) (Mb rfl)).cast (by decide))).cast rfl) (fun q=>by cases q) fun o_=>Zg fun h₂ H2=>?_
 refine (?_ : SB c _ _ _ _ _ _ _ _ _ _) h₂ H2
 refine Ym (d:=false) ((Xq (Ye (d:=true) (e:=false) (Zb (Zk 2 rfl rfl) ev_none V6) (fun o_=>Ye (d:=true) (e:=false) ((Zb (Zk 2 rfl rfl) ev_s ne_ss).cast dk) (fun o_=>Ye (d:=false) (e:=false) ((Zb (Zk 2 rfl rfl) ev_s ne_ss).cast dk) (fun q=>by cases q))))).cast rfl) (fun q=>by cases q) fun o_=>Zg fun h₃ H3=>?_
 refine (?_ : SB c _ _ _ _ _ _ _ _ _ _) h₃ H3
 refine Ym (d:=false) ((Ys (d:=true) (e:=false) (Zb (Zk 1 rfl rfl) ev_none V6) (fun o_=>(Zb (ev_type (Zr (by rfl) n_type PyProof.Rows.boot_type) (Zk 1 rfl rfl) (fun v s h=>tyS v s h) (by decide)) (Zr (by rfl) n_str PyProof.Rows.boot_str) (Mb rfl)).cast (by decide))).cast rfl) (fun q=>by cases q) fun o_=>Zg fun h4 H4=>?_
 refine (?_ : SB c _ _ _ _ _ _ _ _ _ _) h4 H4
 refine V8 (j:=j) (Za 2 rfl rfl) (Za 0 rfl rfl) I0 ha ho sk_nl (by simp) ?_
 rintro o_ rfl
 refine V8 (j:=j) ev_s (Za 0 rfl rfl) I' ha og sk_buf (S5 (J3 _ _ _) (by decide)) ?_
 rintro o_ ⟨t1,rfl⟩
 rw[List.set_set]
 refine V8 (j:=j) ev_i (Za 0 rfl rfl) I' ha og sk_pos (S5 (S7 (J3 _ _ _) (Nat.succ_le_succ (J3 _ _ _))) (by decide)) ?_
 rintro o_ ⟨t2,rfl⟩
 rw[List.set_set]
 have e : Xx (Str.ofString "_StringIO__pos") (.int 0 t2) (Xx (Str.ofString "_StringIO__buf") (.str (Str.ofString "") t1) (Xx (Str.ofString "_StringIO__newline") (.str nlS 897) []))=ioA (.str nlS 897) (.str (Str.ofString "") t1) (.int 0 t2):=by kernel_rfl
 rw[e]
 have D' : ∀ {q : Value},Loc (subB g h env ns vs as) as (os.set j (atS (ioA (.str nlS 897) q (.int 0 t2)))) dx (atS (ioA (.str nlS 897) q (.int 0 t2))):=.ld j ha og
 refine Ym (d:=true) (Zb (Zk 1 rfl rfl) ev_none V6) (fun o_ h5 H5=>?_) (fun q=>by cases q)
 refine Xb (Uw H5 (Za 0 rfl rfl) I' D' mk_trans (by kernel_rfl) (Zq H5 (Za 1 rfl rfl) (Zd ⟨H5.kin,Zh (trans_ok (hA'.mono (by decide)) H5 I' D') ?_ fun o_ o_ q=>q⟩)))
 rintro o_ h6 ⟨rfl,H6⟩
 refine (Za 0 rfl rfl : EV c _ _ _ _ _ _ _ _ _).eq H6 (Ue H6 I' ha og sk_buf (by simp) fun h7 H7=>?_)
 rw[List.set_set,lput_buf] at H7
 refine Zg (fun h8 H8=>?_) h7 H7
 refine Zg (fun h9 H9=>⟨rfl,?_⟩) h8 H8
 have:=(H.leave₀ H9).closeIO (p:=0) ha og
 rwa [List.set_set] at this
theorem w_makeIO {v : Value}{Q : Value→Heap→Prop}(hA : Rm A 5) (H : Led c env g ns vs as os h)
 (q : ∀ dx x h',Led c env g ns vs (as ++ [dx] ++ [x]) (os ++ [atS []] ++ [Sp.ob (Z9 735 dx)]) h'→CD c (A.under (.builtin "type.__call__" ⟨[.ref 735,v],[]⟩)) (.call (.ref 505) ⟨[.ref x,v],[]⟩) (Ul (fun v h''=>v=.none∧Q (.ref x) h'') noX) h') : W c A (call (.ref 735) [v]) Q X h:=Xy fun kk=>by
 have X:=H.kin
 have hC : h.get? 735=some (o735 c.w.params):=X 735 _ (by kernel_rfl)
 refine codeAny_of_tree ?_
 show wpAny _ _ (callAny (.ref 735) _) _ _ _
 refine nd_load (s:=stt c h kk) hC ?_
 show wpAny _ _ (callAny.viaDunder (.ref 735) _) _ _ _
 unfold callAny.viaDunder
 refine Jd ?_
 intro Q1 X1
 have call : Looks (model prg c.w) h (specialOf (.ref 735) "__call__") (some (.builtin "type.__call__")):=Looks.of_peek X (pk_call c.w.params)
 have typ : Looks (model prg c.w) h (isInstance (.ref 735) (.type "type")) true:=Looks.of_peek X (pk_inst c.w.params)
 refine wpAny_bind (call.at ?_)
 dsimp only
 rw[tc_bind]
 refine wpAny_bind (wpAny_pure (wpAny_bind (wpAny_pure ?_)))
 refine wpAny_pure (a:=Fin.again (.call (.builtin "type.__call__") ⟨[.ref 735,v],[]⟩)) (And.intro rfl ?_)
 refine codeAny_call_builtin_at (Code.quiet_builtin _ dk) entry_typeCall (check_slot tc_kind tc_split typ (tc_args _ _ _) ?_)
 unfold Builtin.«type.__call__»
 have hm : Looks (model prg c.w) h (mroOf (.ref 735)) [.ref 735,.ref 258,.ref 231,.type "object"]:=Looks.of_peek X (pk_mro c.w.params)
 have made : Looks (model prg c.w) h (Bind.madeBy (.ref 735)) none:=Looks.of_peek X (pk_made c.w.params)
 dsimp only
 refine Jd ?_
 intro Q2 X2
 generalize hG : getAttr (.ref 735) (Str.ofString "__new__")=G
 repeat (first | rw[if_neg Bool.false_ne_true] | with_reducible refine wpAny_call ?_ | lk)
 subst hG
 have hA1:=hA.under 735 [v] []
 refine cls_bind (s:=stt c h kk) X (rd_735 _) (fc_new735 _) (wpAny_call (sm_get (s:={ stt c h kk with toks:=kk + 1 }) X (rec_232 _) ?_))
 refine handed_on rfl ?_
 refine wpAny_bind (wpAny_holding (wpAny_call (codeAny_mono (nw_ok (hA1.mono (by decide)) H (kk + 1)) fun r s' z=>?_)))
 rcases r with e | (rv | _ | _ | _) <;> first | exact z.2.elim | skip
 obtain⟨z1,dx,x,rfl,H'⟩:=z
 rw[z1.eq]
 obtain⟨ox,hx,rfl⟩:=H'.at_ (as.length + 1) x (Sp.ob (Z9 735 dx)) (by simp) (by simp[← H.len])
 clear H call typ hm made X hC
 have X:=H'.kin
 have t1 : Looks (model prg c.w) s'.heap (typeOf (.ref x)) (.ref 735):=(Looks.ld hx).andThen .now
 have s1 : Looks (model prg c.w) s'.heap (isSubtype (.ref 735) (.ref 735)) true:=Looks.of_peek X (pk_sub c.w.params)
 have i1 : Looks (model prg c.w) s'.heap (typeLookup (.ref 735) "__init__") (some (.ref 505)):=looks_findIn X (fi_735 _)
 have b1 : Looks (model prg c.w) s'.heap (bindSpecial (.ref 505) (.ref x)) (.ref 505,[.ref x]):=bind_fn X _ (ty_505 _)
 have fin:=q dx x _ H' s'.toks
 clear q H' X
 generalize s'.heap=h2 at hx t1 s1 i1 b1 fin ⊢
 show wpAny _ _ _ _ _ { heap:=h2,drawn:=c.D,toks:=s'.toks,os:=c.O }
 unfold isInstance callSpecial? specialOf
 repeat (first | with_reducible refine wpAny_call ?_ | lk)
 refine codeAny_mono fin fun r s' z=>?_
 rcases r with e | (rv | _ | _ | _) <;> first | exact z.2.elim | skip
 obtain⟨z1,rfl,z2⟩:=z
 exact wpAny_pure (wpAny_pure ⟨z1,z2⟩)
theorem io_make {s : Str}{t : Tok}(hA : Rm A 6) (H : Led c env g ns vs as os h) : W c A (call (.ref 735) [.str s t]) (fun v h'=>∃ dx x,v=.ref x∧Led c env g ns vs (as ++ [dx] ++ [x]) (os ++ [ioS s 0] ++ [Sp.ob (Z9 735 dx)]) h') X h:=by
 refine Zl ?_
 intro Q'
 refine w_makeIO (hA.mono (by decide)) H fun dx x h' H'=>?_
 have e : ∀ sp : Sp,(os ++ [atS []] ++ [Sp.ob (Z9 735 dx)]).set os.length sp=os ++ [sp] ++ [Sp.ob (Z9 735 dx)]:=fun sp=>by simp
 refine CD_to (ioinit_cd (dx:=dx) (j:=os.length) ((hA.under 735 [.str s t] []).mono (by decide)) H' (fun sp=>?_) (by simp[H.len]) (by simp)) ?_
 ·rw[e]
  exact .ld (os.length + 1) (by simp[H.len]) (by simp)
 ·rintro v h'' ⟨rfl,H''⟩
  rw[e] at H''
  exact⟨rfl,dx,x,rfl,H''⟩
theorem n_isinstance (P : Params) : nsIn (K P) mainGlobals "isinstance"=some none:=by kernel_rfl
theorem n_deque (P : Params) : nsIn (K P) mainGlobals "deque"=some (some (.type "collections.deque")):=by kernel_rfl
noncomputable abbrev fdSI : FuncData:=Xl (me 30 0) "shlex.__init__" (.ref 787) (.str "cpy313.shlex" 1227) (.ref 793)
noncomputable abbrev psSI : List PySem.Str:=["self","instream","infile","posix","punctuation_chars"]
noncomputable abbrev rsSI : List PySem.Str:=["t"]
theorem F_si : FnK 794 fdSI (fnB (me 30 0)) (psSI ++ rsSI):=⟨fun P=>by kernel_rfl,fun P=>by kernel_rfl,rfl,by kernel_rfl,dk,dk,dk,rfl,rfl,by kernel_rfl,by kernel_rfl⟩
theorem B_si {s : Shared}{P : Params}(X : (K P).In s.heap) (a b d : Value) : BindsTo s fdSI ⟨[a,b],[(Str.ofString "posix",d)]⟩ (psSI.zip [a,b,.none,d,.bool false]):=
 binds_K (K:=K P) (T:=787) (o:=o787 P) (items:=#[.none,.none,(.bool false),(.bool false)]) (n:=0) X rfl (by kernel_rfl) rfl rfl rfl
noncomputable abbrev wcA : Str:=Str.ofString "abcdfeghijklmnopqrstuvwxyzABCDEFGHIJKLMNOPQRSTUVWXYZ0123456789_"
noncomputable abbrev wcB : Str:=Str.ofString "ßàáâãäåæçèéêëìíîïðñòóôõöøùúûüýþÿÀÁÂÃÄÅÆÇÈÉÊËÌÍÎÏÐÑÒÓÔÕÖØÙÚÛÜÝÞ"
noncomputable abbrev shB (T : Nat→Tok) (io d1 d2 : Addr) (st ln tk : Value) : List (Str × Value):=
 [(Str.ofString "instream",.ref io),(Str.ofString "infile",.none),(Str.ofString "posix",.bool true),(Str.ofString "eof",.none),(Str.ofString "commenters",.str (Str.ofString "#") (T 0)),
  (Str.ofString "wordchars",.str wcS (T 1)),(Str.ofString "whitespace",.str (Str.ofString " \t\r\n") (T 2)),(Str.ofString "whitespace_split",.bool false),(Str.ofString "quotes",.str (Str.ofString "'\"") (T 3)),(Str.ofString "escape",.str (Str.ofString "\\") (T 4)),
  (Str.ofString "escapedquotes",.str (Str.ofString "\"") (T 5)),(Str.ofString "state",st),(Str.ofString "pushback",.ref d1),(Str.ofString "lineno",ln),(Str.ofString "debug",.int 0 (T 6)),(Str.ofString "token",tk),(Str.ofString "filestack",.ref d2),(Str.ofString "source",.none),(Str.ofString "_punctuation_chars",.str (Str.ofString "") (T 7))]
theorem shB_shA {T : Nat→Tok}{io d1 d2 : Addr}{st ln tk : Value} : Xx (Str.ofString "whitespace_split") (.bool true) (shB T io d1 d2 st ln tk)=shA T io d1 d2 st ln tk:=by kernel_rfl
theorem s8_instream : X5 870 "instream":=fun P=>⟨by kernel_rfl,by kernel_rfl,by kernel_rfl,by kernel_rfl⟩
theorem s8_infile : X5 870 "infile":=fun P=>⟨by kernel_rfl,by kernel_rfl,by kernel_rfl,by kernel_rfl⟩
theorem s8_posix : X5 870 "posix":=fun P=>⟨by kernel_rfl,by kernel_rfl,by kernel_rfl,by kernel_rfl⟩
theorem s8_eof : X5 870 "eof":=fun P=>⟨by kernel_rfl,by kernel_rfl,by kernel_rfl,by kernel_rfl⟩
theorem s8_commenters : X5 870 "commenters":=fun P=>⟨by kernel_rfl,by kernel_rfl,by kernel_rfl,by kernel_rfl⟩
theorem Mj : X5 870 "wordchars":=fun P=>⟨by kernel_rfl,by kernel_rfl,by kernel_rfl,by kernel_rfl⟩
theorem s8_whitespace : X5 870 "whitespace":=fun P=>⟨by kernel_rfl,by kernel_rfl,by kernel_rfl,by kernel_rfl⟩
theorem Jt : X5 870 "whitespace_split":=fun P=>⟨by kernel_rfl,by kernel_rfl,by kernel_rfl,by kernel_rfl⟩
theorem s8_quotes : X5 870 "quotes":=fun P=>⟨by kernel_rfl,by kernel_rfl,by kernel_rfl,by kernel_rfl⟩
theorem s8_escape : X5 870 "escape":=fun P=>⟨by kernel_rfl,by kernel_rfl,by kernel_rfl,by kernel_rfl⟩
theorem Mx : X5 870 "escapedquotes":=fun P=>⟨by kernel_rfl,by kernel_rfl,by kernel_rfl,by kernel_rfl⟩
theorem s8_pushback : X5 870 "pushback":=fun P=>⟨by kernel_rfl,by kernel_rfl,by kernel_rfl,by kernel_rfl⟩
theorem s8_debug : X5 870 "debug":=fun P=>⟨by kernel_rfl,by kernel_rfl,by kernel_rfl,by kernel_rfl⟩
theorem s8_filestack : X5 870 "filestack":=fun P=>⟨by kernel_rfl,by kernel_rfl,by kernel_rfl,by kernel_rfl⟩
theorem s8_source : X5 870 "source":=fun P=>⟨by kernel_rfl,by kernel_rfl,by kernel_rfl,by kernel_rfl⟩
theorem U9 : X5 870 "_punctuation_chars":=fun P=>⟨by kernel_rfl,by kernel_rfl,by kernel_rfl,by kernel_rfl⟩
theorem cd_fnK {f : Addr}{fd : FuncData}{body : List Stmt}{ps rs : List Str}{xs zs : List Value}{kw : List (Str × Value)}{Q : Value→Heap→Prop}(H : Led c env g ns vs as os h) (F : FnK f fd body (ps ++ rs)) (hroom : A.depth < recursionLimit)
 (hb : ∀ k,BindsTo (stt c h k) fd ⟨xs,kw⟩ (ps.zip zs)) (hl : ps.length=zs.length) (hcell : ∀ x∈fd.scope.names,x.2≠.cell)
 (k : ∀ L h₁,Led c (callEnv fd L f) (subB g h env ns vs as) (ps ++ rs) (zs.map some ++ List.replicate rs.length none) as os h₁ →
  W c (A.deeper (callEnv fd L f)) (execs body (callEnv fd L f)) (fun fl h₂=>Q (Js fl) h₂) noX h₁) : CD c A (.call (.ref f) ⟨xs,kw⟩) (Ul Q X) h:=fun kk=>by
 refine codeAny_call_def (s:=stt c h kk) (fd:=fd) (body:=body) (binds:=ps.zip zs) hroom (H.kin _ _ (F.obj _)) rfl (H.bs.lim) (codeRec_of H.kin (F.code _)) F.body (hb kk) hcell (fun x hx=>F.kinds _ (List.mem_append_left _ (List.of_mem_zip hx).1)) (fun h₁ hn hk=>?_) F.co F.gen F.knd
 have L1:=H.enter (F.eo h.objs.size) rfl (by rw[Xi hl F.nd];exact hn) hk
 refine wpAny_mono (k _ _ L1 _) (fun fl s' q=>?_) fun o_ o_ q=>q.2.elim
 cases fl <;> exact q
theorem w_makeK {C fI : Addr}{rest : List Value}{kw : List (Str × Value)}{Q : Value→Heap→Prop}(H : Led c env g ns vs as os h) (k : makeK C fI)
 (q : ∀ dx x h',Led c env g ns vs (as ++ [dx] ++ [x]) (os ++ [atS []] ++ [Sp.ob (Z9 C dx)]) h'→CD c (A.under (.builtin "type.__call__" ⟨.ref C :: rest,kw⟩)) (.call (.ref fI) ⟨.ref x :: rest,kw⟩) (Ul (fun v h''=>v=.none∧Q (.ref x) h'') noX) h') : W c A (call (.ref C) rest kw) Q X h:=Xy fun kk=>by
 obtain⟨k1,k2,k3⟩:=k c.w.params
 have X:=H.kin
 have H1:=H.alloc (o:=emptyDict) (sp:=atS []) rfl ⟨[],0,rfl,.nil⟩
 have H2:=H1.alloc (o:=instObj C h.objs.size) (sp:=.ob (Z9 C h.objs.size)) rfl rfl
 rw[Heap.size_push] at H2
 refine make_core (makes_of X k1) (looks_findIn X k2) (fun self=>bind_fn X self k3) (.inl rfl) (codeAny_mono (q _ _ _ H2 kk) fun r s' z=>?_)
 cases r with
 | error e=>exact z.2.elim
 | ok f=>cases f <;> first | exact z.2.elim | exact⟨z.2.1,z.1,z.2.2⟩
theorem Yv {α : Type}{l r : List α}{a : α}{n : Nat}(hn : n=l.length) : (l ++ [a] ++ r)[n]?=some a:=by subst hn;simp
theorem Vd {α : Type}{l r : List α}{a b : α}{n : Nat}(hn : n=l.length) : (l ++ [a] ++ r).set n b=l ++ [b] ++ r:=by subst hn;simp
theorem Xg {n attr : Str}{xp p' p : Pos}{value : Expr}{rest : List Stmt}{x C dx di : Addr}{sp : Sp}{l : List (Str × Value)}{R : Value→Prop}{Q : Flow→Heap→Prop}(hl : as.length=os.length) (y : EV c A env value g ns vs (as ++ [dx] ++ [di]) (os ++ [atS l] ++ [sp]) R) (z : EV c A env (.Name n xp) g ns vs (as ++ [dx] ++ [di]) (os ++ [atS l] ++ [sp]) (·=.ref x)) (I : At g.hp x (.ob (Z9 C dx))) (k : X5 C attr) (hz : l.length < 900) (e : ∀ v,Xx attr v l=l ++ [(attr,v)])
 (q : ∀ v,R v→let l':=l ++ [(attr,v)];SB c A env rest g ns vs (as ++ [dx] ++ [di]) (os ++ [atS l'] ++ [sp]) Q X) (hs : autoParam (swapsWith value (some (.Attribute (.Name n xp) attr p')) p.line env=pure false) zR) : SB c A env (.Assign [.Attribute (.Name n xp) attr p'] value p :: rest) g ns vs (as ++ [dx] ++ [di]) (os ++ [atS l] ++ [sp]) Q X:=
 V8 (j:=as.length) y z (.fz I) (Yv rfl) (Yv hl) k hz (fun v hv=>by rw[Vd hl,e];exact q v hv) hs
theorem isi_str {f : Str}{fp pos : Pos}{e1 e2 : Expr}{x : Str}(hf : EV c A env (.Name f fp) g ns vs as os (·=.builtin "isinstance")) (y : EV c A env e1 g ns vs as os (isS x)) (z : EV c A env e2 g ns vs as os (·=.type "str")) (he : autoParam (starEach [e1,e2] env=(false,eval e1 env) :: starEach [e2] env) zR) (he2 : autoParam (starEach [e2] env=(false,eval e2 env) :: starEach [] env) zR) (hplain : autoParam ((backTo pos (starEach [e2] env)).any (·.1)=false) zR) :
 EV c A env (.Call (.Name f fp) [e1,e2] [] pos) g ns vs as os (·=.bool true):=fun h H =>
 Xj H hf (Zi (y.runS H fun t=>Zi (z.eq H (Zd fun kk=>by
  exact call_isinstance (s:=stt c h kk) (isinstance_true (Tx:="str") (by kernel_rfl) (by rw[isSubtype_type];kernel_rfl)) ⟨typeIs_str _ _ _,⟨⟨rfl,rfl,rfl⟩,rfl,rfl⟩⟩)) he2) he) he hplain
theorem shinit_cd {x dx : Addr}{s : Str}{t : Tok}(hA : Rm A 8) (hl : as.length=os.length) (H : Led c env g ns vs (as ++ [dx]) (os ++ [atS []]) h) (I : At g.hp x (.ob (Z9 870 dx))) :
 CD c A (.call (.ref 794) ⟨[.ref x,.str s t],[(Str.ofString "posix",.bool true)]⟩) (Ul (fun v h'=>v=.none∧∃ g2 di io d1 d2 T ts tn tt,g.hp.StaysIn g2.hp∧g2.fo=g.fo∧Led c env g2 ns vs (as ++ [dx] ++ [di]) (os ++ [atS (shB T io d1 d2 (.str (Str.ofString " ") ts) (.int 1 tn) (.str (Str.ofString "") tt))] ++ [ioS s 0]) h' ∧
  At g2.hp io (.ob (Z9 735 di))∧At g2.hp d1 dqS∧At g2.hp d2 dqS) noX) h:=by
 refine J9 ?_
 intro Q'
 refine cd_fnK (ps:=psSI) (rs:=rsSI) (zs:=[.ref x,.str s t,.none,.bool true,.bool false]) H F_si hA.depth (fun k=>B_si (P:=c.w.params) H.kin _ _ _) rfl dk fun L h₁ H1=>?_
 have hA':=hA.deep (callEnv fdSI L 794)
 have I1:=I.stay H.stay
 refine (?_ : SB c _ _ _ _ _ _ _ _ _ _) h₁ H1
 refine Ym (d:=true) (Zm (isi_str (Zr (by rfl) n_isinstance boot_isinstance) (Zk 1 rfl rfl) (Zr (by rfl) n_str PyProof.Rows.boot_str))) (fun o_ h₂ H2=>?_) (fun q=>by cases q)
 refine Zz (Yl H2 (Xm (by rfl) n_sio) k_sio (Zq H2 (Za 1 rfl rfl) (Zd ⟨H2.kin,Zh (io_make (X:=noX) (hA'.mono (by decide)) H2) ?_ fun o_ o_ q=>q⟩)))
 rintro o_ h₃ ⟨di,io,rfl,H3⟩
 refine Zp 1 rfl rfl H3 fun h4 H4=>Mw ?_
 obtain⟨g1,k1,f1,H5,J1⟩:=H4.solid
 have I2:=I1.stay k1
 show W c _ _ _ _ _
 refine (?_ : SB c _ _ _ _ _ _ _ _ _ _) h4 H5
 refine Ym (d:=true) (Zb (Za 1 rfl rfl) ev_none (Mb rfl)) (fun o_=>?_) (fun q=>by cases q)
 refine Xg hl (Za 1 rfl rfl) (Za 0 rfl rfl) I2 s8_instream (Nat.le_of_ble_eq_true (by kernel_rfl)) (fun v=>by kernel_rfl) ?_
 rintro o_ rfl
 intro l1
 refine Xg hl (Za 2 rfl rfl) (Za 0 rfl rfl) I2 s8_infile (Nat.le_of_ble_eq_true (by kernel_rfl)) (fun v=>by kernel_rfl) ?_
 rintro o_ rfl
 intro l2
 refine Zg fun h6 H6=>?_
 refine (?_ : SB c _ _ _ _ _ _ _ _ _ _) h6 H6
 refine Xg hl (Za 3 rfl rfl) (Za 0 rfl rfl) I2 s8_posix (Nat.le_of_ble_eq_true (by kernel_rfl)) (fun v=>by kernel_rfl) ?_
 rintro o_ rfl
 intro l3
 refine Ym (d:=true) (Zm (Za 3 rfl rfl)) (fun o_=>?_) (fun q=>by cases q)
 refine Xg hl (ev_none) (Za 0 rfl rfl) I2 s8_eof (Nat.le_of_ble_eq_true (by kernel_rfl)) (fun v=>by kernel_rfl) ?_
 rintro o_ rfl
 intro l4
 refine Zg fun h7 H7=>?_
 refine (?_ : SB c _ _ _ _ _ _ _ _ _ _) h7 H7
 refine Xg hl (ev_s) (Za 0 rfl rfl) I2 s8_commenters (Nat.le_of_ble_eq_true (by kernel_rfl)) (fun v=>by kernel_rfl) ?_
 rintro o_ ⟨t0,rfl⟩
 intro l5
 refine Xg hl (ev_s) (Za 0 rfl rfl) I2 Mj (Nat.le_of_ble_eq_true (by kernel_rfl)) (fun v=>by kernel_rfl) ?_
 rintro o_ ⟨t1,rfl⟩
 intro l6
 refine Ym (d:=true) (Zm (Z0 (Za 0 rfl rfl) (.fz I2) (.ld as.length (Yv rfl) (Yv hl)) gk_px (by kernel_rfl))) (fun o_ h8 H8=>?_) (fun q=>by cases q)
 refine U0 ((Za 0 rfl rfl : EV c _ _ _ _ _ _ _ _ _).eq H8 (c_get H8 (.fz I2) (.ld as.length (Yv rfl) (Yv hl)) gk_wc (v:=.str wcA t1) (by kernel_rfl) rfl ((ev_s : EV c _ _ _ _ _ _ _ _ _).runS H8 fun t2=>?_)))
 refine c_iaddS dk fun t3=>Ue (j:=as.length) H8 (.fz I2) (Yv rfl) (Yv hl) Mj (Nat.le_of_ble_eq_true (by kernel_rfl)) fun h9 H9=>?_
 rw[Vd hl] at H9
 have ew : Xx (Str.ofString "wordchars") (.str (wcA ++ wcB) t3) l6=l5 ++ [(Str.ofString "wordchars",.str (wcA ++ wcB) t3)]:=by kernel_rfl
 rw[ew] at H9
 refine Zg (fun h10 H10=>?_) h9 H9
 refine (?_ : SB c _ _ _ _ _ _ _ _ _ _) h10 H10
 refine Xg hl (ev_s) (Za 0 rfl rfl) I2 s8_whitespace (Nat.le_of_ble_eq_true (by kernel_rfl)) (fun v=>by kernel_rfl) ?_
 rintro o_ ⟨t4,rfl⟩
 intro l7
 refine Xg hl (V4) (Za 0 rfl rfl) I2 Jt (Nat.le_of_ble_eq_true (by kernel_rfl)) (fun v=>by kernel_rfl) ?_
 rintro o_ rfl
 intro l8
 refine Xg hl (ev_s) (Za 0 rfl rfl) I2 s8_quotes (Nat.le_of_ble_eq_true (by kernel_rfl)) (fun v=>by kernel_rfl) ?_
 rintro o_ ⟨t5,rfl⟩
 intro l9
 refine Xg hl (ev_s) (Za 0 rfl rfl) I2 s8_escape (Nat.le_of_ble_eq_true (by kernel_rfl)) (fun v=>by kernel_rfl) ?_
 rintro o_ ⟨t6,rfl⟩
 intro l10
 refine Xg hl (ev_s) (Za 0 rfl rfl) I2 Mx (Nat.le_of_ble_eq_true (by kernel_rfl)) (fun v=>by kernel_rfl) ?_
 rintro o_ ⟨t7,rfl⟩
 intro l11
 refine Xg hl (ev_s) (Za 0 rfl rfl) I2 sk_st (Nat.le_of_ble_eq_true (by kernel_rfl)) (fun v=>by kernel_rfl) ?_
 rintro o_ ⟨t8,rfl⟩
 intro l12
 intro h11 H11
 refine Xb (Sg H11 (Xm (by rfl) n_deque) (c_deque H11 fun d1 h111 H111=>?_))
 obtain⟨g2,k2,f2,H112,d1J⟩:=H111.solid
 have I3:=I2.stay k2
 refine (Za 0 rfl rfl : EV c _ _ _ _ _ _ _ _ _).eq H112 (Ue (j:=as.length) H112 (.fz I3) (Yv rfl) (Yv hl) s8_pushback (Nat.le_of_ble_eq_true (by kernel_rfl)) fun h113 H113=>?_)
 rw[Vd hl,show ∀ v,Xx (Str.ofString "pushback") v l12=l12 ++ [(Str.ofString "pushback",v)] from fun v=>by kernel_rfl] at H113
 refine (?_ : SB c _ _ _ _ _ _ _ _ _ _) h113 H113
 refine Xg hl (ev_i) (Za 0 rfl rfl) I3 sk_ln (Nat.le_of_ble_eq_true (by kernel_rfl)) (fun v=>by kernel_rfl) ?_
 rintro o_ ⟨t9,rfl⟩
 intro l13
 refine Xg hl (ev_i) (Za 0 rfl rfl) I3 s8_debug (Nat.le_of_ble_eq_true (by kernel_rfl)) (fun v=>by kernel_rfl) ?_
 rintro o_ ⟨t10,rfl⟩
 intro l14
 refine Xg hl (ev_s) (Za 0 rfl rfl) I3 sk_tk (Nat.le_of_ble_eq_true (by kernel_rfl)) (fun v=>by kernel_rfl) ?_
 rintro o_ ⟨t11,rfl⟩
 intro l15
 intro h12 H12
 refine Xb (Sg H12 (Xm (by rfl) n_deque) (c_deque H12 fun d2 h121 H121=>?_))
 obtain⟨g3,k3,f3,H122,d2J⟩:=H121.solid
 have I4:=I3.stay k3
 refine (Za 0 rfl rfl : EV c _ _ _ _ _ _ _ _ _).eq H122 (Ue (j:=as.length) H122 (.fz I4) (Yv rfl) (Yv hl) s8_filestack (Nat.le_of_ble_eq_true (by kernel_rfl)) fun h123 H123=>?_)
 rw[Vd hl,show ∀ v,Xx (Str.ofString "filestack") v l15=l15 ++ [(Str.ofString "filestack",v)] from fun v=>by kernel_rfl] at H123
 refine (?_ : SB c _ _ _ _ _ _ _ _ _ _) h123 H123
 refine Xg hl (ev_none) (Za 0 rfl rfl) I4 s8_source (Nat.le_of_ble_eq_true (by kernel_rfl)) (fun v=>by kernel_rfl) ?_
 rintro o_ rfl
 intro l16
 refine Ym (d:=true) ((Yo (Zm (Za 4 rfl rfl))).cast rfl) (fun o_=>?_) (fun q=>by cases q)
 refine Zs 4 rfl rfl ev_s ?_
 rintro o_ ⟨t12,rfl⟩
 refine Zg fun h13 H13=>?_
 refine (?_ : SB c _ _ _ _ _ _ _ _ _ _) h13 H13
 refine Xg hl (Za 4 rfl rfl) (Za 0 rfl rfl) I4 U9 (Nat.le_of_ble_eq_true (by kernel_rfl)) (fun v=>by kernel_rfl) ?_
 rintro o_ rfl
 intro l17
 refine Z7 ((Yk (Zk 4 rfl rfl) (X4 dk)).cast dk) ?_
 refine Zg fun h14 H14=>⟨rfl,?_⟩
 obtain⟨H15,k15⟩:=H.leave H14 (fun b o e=>k3 _ _ (k2 _ _ (k1 _ _ e))) (f3.trans (f2.trans f1))
 refine⟨⟨g3.hp,g.fo⟩,di,io,d1,d2,fun n=>[t0,t3,t4,t5,t6,t7,t10,t12].getD n 0,t8,t9,t11,k15,rfl,?_,(J1.stay k2).stay k3,d1J.stay k3,d2J⟩
 exact H15.osE (by kernel_rfl)
theorem n_shlex (P : Params) : nsIn (K P) mainGlobals "shlex"=some (some (.ref 870)):=by kernel_rfl
theorem k_shlex : Jc 870:=fun P=>by kernel_rfl
theorem n_list (P : Params) : nsIn (K P) mainGlobals "list"=some none:=by kernel_rfl
theorem mk_sh : makeK 870 794:=fun P=>⟨by kernel_rfl,by kernel_rfl,by kernel_rfl⟩
noncomputable abbrev fdSP : FuncData:=Xl (st 31) "split" (.ref 875) (.str "cpy313.shlex" 1227) (.ref 881)
noncomputable abbrev psSP : List PySem.Str:=["s","comments","posix"]
noncomputable abbrev rsSP : List PySem.Str:=["lex"]
theorem F_sp : FnK 882 fdSP (fnB (st 31)) (psSP ++ rsSP):=⟨fun P=>by kernel_rfl,fun P=>by kernel_rfl,rfl,by kernel_rfl,dk,dk,dk,rfl,rfl,by kernel_rfl,by kernel_rfl⟩
theorem B_sp {s : Shared}{P : Params}(X : (K P).In s.heap) (a b : Value) : BindsTo s fdSP ⟨[a,b],[]⟩ (psSP.zip [a,b,.bool true]):=
 binds_K (K:=K P) (T:=875) (o:=o875 P) (items:=#[(.bool false),(.bool true)]) (n:=0) X rfl (by kernel_rfl) rfl rfl rfl
theorem w_callKW {f n : Str}{fp pos kp : Pos}{e ke : Expr}{es : List Expr}{a : Addr}{Q : Value→Heap→Prop}(H : Led c env g ns vs as os h) (hf : EV c A env (.Name f fp) g ns vs as os (·=.ref a)) (hk : Jc a)
 (x : WS c A env (e :: es) pos (fun l h'=>W c A (eval ke env) (fun kv h''=>(K c.w.params).In h''∧W c A (call (.ref a) l [(n,kv)]) Q X h'') X h') X h)
 (hplain : autoParam (((backTo pos (starEach (e :: es) env)).any (·.1) || (backToKw pos (keywordEach [⟨some n,ke,kp⟩] env)).any (·.1.isNone))=false) zR)
 (he : autoParam (starEach (e :: es) env=(false,eval e env) :: starEach es env) zR) :
 W c A (eval (.Call (.Name f fp) (e :: es) [⟨some n,ke,kp⟩] pos) env) Q X h:=fun k =>
 wpAny_Call_Name_kw (wpAny_mono (hf h H k) (fun v s1 q=>by
  rw[q.1.eq,q.2.1,q.2.2]
  refine callWith_KW (first:=[]) H.bs.kin (hk _) rfl (wpAny_mono (x _) (fun l s2 q2=>?_) fun o_ o_ q=>q) hplain he
  refine wpAny_evalAll_cons (wpAny_bind (wpAny_mono (Zy q2.2 q2.1) (fun kv s3 q3=>wpAny_bind (wpAny_standAt (wpAny_pure (wpAny_evalAll_nil ⟨q3.2.1,?_⟩)))) fun o_ o_ q=>q))
  exact Zy q3.2.2 q3.1) fun o_ o_ q=>⟨q.1,q.2.elim⟩)
theorem split_ok {s : Str}{t : Tok}{ws : List Str}(hA : Rm A 16) (hh : A.handled=none) (FA : FR A (env.locals :: g.fs)) (H : Led c env g ns vs as os h) (hz : s.length < 90000) (hn : 10 ∉ s.cps.toList) (tk : Toks s.cps.toList ws) (hw : ws.length < 1000) :
 W c A (call (.ref 882) [.str s t,.bool true]) (fun v h'=>Ex2 fun S us=>An3 (v=.ref S) (Paired (fun w v=>isS w v) ws us) (Led c env g ns vs (as ++ [S]) (os ++ [.li us]) h')) X h:=by
 refine Zl ?_
 intro Q'
 refine Xy (S4 (ps:=psSP) (rs:=rsSP) (zs:=[.str s t,.bool true,.bool true]) H F_sp hA.depth (fun k=>B_sp (P:=c.w.params) H.kin _ _) rfl dk fun L h₁ H1=>?_)
 have hA':=hA.deep (callEnv fdSP L 882)
 have FA' : FR (A.deeper (callEnv fdSP L 882)) (L :: env.locals :: g.fs):=(FA.deep (env':=callEnv fdSP L 882) F_sp.knd rfl).toFR
 have hl:=H.len
 refine (?_ : SB c _ _ _ _ _ _ _ _ _ _) h₁ H1
 refine Z7 (Zb (Zk 0 rfl rfl) ev_none X6) fun h₂ H2=>?_
 refine Zz (w_callKW H2 (Xm (by rfl) n_shlex) k_shlex (Zq H2 (Za 0 rfl rfl) (Zd ((Za 2 rfl rfl : EV c _ _ _ _ _ _ _ _ _).eq H2 ⟨H2.kin,w_makeK H2 mk_sh fun dx x h₃ H3=>?_⟩))))
 obtain⟨g1,k1,f1,H4,I1⟩:=H3.solid
 refine CD_to (shinit_cd ((hA'.under _ _ _).mono (by decide)) hl H4 I1) ?_
 rintro o_ h5 ⟨rfl,g2,di,io,d1,d2,T,ts,tn,tt,k2,f2,H5,J2,P2,F2⟩
 refine⟨rfl,Zp 3 rfl rfl H5 fun h6 H6=>?_⟩
 have I2:=I1.stay k2
 refine (?_ : SB c _ _ _ _ _ _ _ _ _ _) h6 H6
 refine V8 (j:=as.length) V4 (Za 3 rfl rfl) (.fz I2) (Yv rfl) (Yv hl) Jt (by simp) ?_
 rintro o_ rfl
 rw[Vd hl,shB_shA,s_b]
 refine Z7 ((Yo (Zm (Za 1 rfl rfl))).cast rfl) fun h7 H7=>?_
 have H8:=H7.closeSh (k:=as.length) (P:=isS (ch 32)) (Yv rfl) (Yv hl) ⟨_,rfl⟩
 rw[Vd hl] at H8
 have elz2 : ∀ a b a' b' : Sp,lz (os ++ [b'] ++ [a']) (as.length + 1) as.length a b=os ++ [b] ++ [a]:=fun a b a' b'=>by
  unfold lz;rw[hl];simp
 have R : RT g2 (as ++ [dx] ++ [di]) (os ++ [shS io d1 d2 (isS (ch 32)) (Str.ofString "")] ++ [ioS s 0]) (as.length + 1) as.length x dx io di d1 d2 s:=
  ⟨⟨I2,J2,P2,F2⟩,by simp,Yv rfl,by simp[hl],by simp[hl],by lia,hz,hn⟩
 rw[← elz2 (ioS s 0) _ (ioS s 0) (shS io d1 d2 (isS (ch 32)) (Str.ofString ""))] at H8
 have fs : g2.fs=env.locals :: g.fs:=by unfold Bas.fs;rw[f2,f1];rfl
 refine J8 (fun h9 H9=>Xo H9 (Zr (by rfl) n_list PyProof.Rows.boot_list) (Zq H9 (Za 3 rfl rfl) (Zd (listOwn (hA'.mono (by decide)) hh (by rw[fs];exact FA') R (by simp[hl]) H9 tk hw ?_)))) h7 H8
 intro S us p' h10 pr H10
 rw[elz2] at H10
 refine⟨S,us,rfl,pr,?_⟩
 obtain⟨H11,k11⟩:=H.leave H10 (fun b o e=>k2 _ _ (k1 _ _ e)) (f2.trans f1)
 have H12:=H11.weaken (g':=g) H.low k11 rfl
 rw[List.append_assoc as,List.append_assoc os] at H12
 exact H12.ends hl
theorem one_of {α : Type}{x : Str}{l : List α}(h : l.length=[x].length) : ∃ w,l=[w]:=by
 cases l with
 | nil=>cases h
 | cons w l=>cases l with
  | nil=>exact⟨w,rfl⟩
  | cons _ _=>cases h
theorem LcC.all {elt iter : Expr}{x : Str}{xp pos : Pos}{scope : Scope}{cl : List (Str × Addr)}{vf : Addr→List (Option Value)}{Q : Value→Heap→Prop}{it : Addr}{n : Nat}{sp : Nat→Sp}{I : Nat→Value→Prop}{D : Heap→Prop}(g₁ : Bas) (R : Nat→Heap→Value→Prop) (mono : ∀ i (g g' : Heap) v,g.StaysIn g'→R i g v→R i g' v) (st1 : g.hp.StaysIn g₁.hp) (fo1 : g₁.fo=g.fo) (wk : Wk c A it n sp I D) (hD : D g₁.hp)
 (H : Led c env g₁ ns vs (as ++ [it]) (os ++ [sp 0]) h) (hn : n < 100000)
 (turn : ∀ i (g' : Bas) v h E acc l,i < n→g₁.hp.StaysIn g'.hp→g'.fs=env.locals :: g.fs→I i v→Led c (Y1 scope cl E env) g' [x] [some v] (as ++ [it] ++ [acc]) (os ++ [sp (i + 1)] ++ [.li l]) h →
  W c A (eval elt (Y1 scope cl E env)) (fun y h₃=>Ex2 fun g'' w=>An4 (g'.hp.StaysIn g''.hp) (g''.fo=g'.fo) (Led c (Y1 scope cl E env) g'' [x] [w] (as ++ [it] ++ [acc]) (os ++ [sp (i + 1)] ++ [.li l]) h₃) (R i g''.hp y)) noX h)
 (fin : ∀ (g' : Bas) l h' acc,l.length=n→(∀ i v,l[i]?=some v→R i g'.hp v)→g₁.hp.StaysIn g'.hp→g'.fo=g.fo→Led c env g' ns (vf acc) (as ++ [acc]) (os ++ [.li l]) h'→Q (.ref acc) h') : LcC c A env g ns vs as os cl [x] (.ListComp elt [⟨.Name x xp,iter,[],0⟩] scope pos) scope vf Q (.ref it) h:=by
 refine .of ⟨g₁,it,n,sp,I,D,fun i g' l=>l.length=i∧∀ j v,l[j]?=some v→R j g' v,st1,fo1,rfl,wk,hD,H,hn,fun i g' l e=>S9 e.1,fun o_ o_=>⟨rfl,fun j v e=>by cases e⟩,?_,fun g' l h' acc hl st' fo' H'=>fin g' l h' acc hl.1 hl.2 st' fo' H'⟩
 rintro i g' vs' l v h₁ E acc QX QT hi ⟨hl,hR⟩ st' fs' hI hv H1
 obtain⟨w,rfl⟩:=one_of hv
 refine Yp 0 rfl rfl H1 fun h₂ H2=>tests_nil (ifT rfl (Zh (turn i g' v h₂ E acc l hi st' fs' hI H2) ?_ fun o_ o_ z=>z))
 rintro y h₃ ⟨g'',w',k1,k2,H3,r⟩
 refine⟨g'',[w'],k1,k2,rfl,H3,by rw[List.length_append,hl];rfl,fun j v e=>?_⟩
 rw[List.getElem?_append] at e
 split at e
 ·exact mono _ _ _ _ k1 (hR j v e)
 ·rename_i hj
  have hlt:=(Nf e).1
  have : j=l.length:=Nat.le_antisymm (Nat.le_of_sub_eq_zero (Nat.lt_one_iff.mp hlt)) (Nat.le_of_not_lt hj)
  subst this
  rw[Nat.sub_self] at e
  cases e;rw[hl];exact r
theorem Vp {α : Type}{R : α→Value→Prop}{xs : List α}{l : List Value}(hl : l.length=xs.length) (h : ∀ (i : Nat) v x,l[i]?=some v→xs[i]?=some x→R x v) : Paired R xs l:=by
 induction xs generalizing l with
 | nil=>cases l with
  | nil=>exact .nil
  | cons v l=>cases hl
 | cons x xs ih=>cases l with
  | nil=>cases hl
  | cons v l=>exact .cons (h 0 v x rfl rfl) (ih (Nat.succ.inj hl) fun i v x e1 e2=>h (i + 1) v x e1 e2)
theorem Yn {α : Type}{R : α→Value→Prop}{xs : List α}{l : List Value}(p : Paired R xs l) {i : Nat}{x : α}(e : xs[i]?=some x) : ∃ v,l[i]?=some v∧R x v:=by
 induction p generalizing i with
 | nil=>cases e
 | cons r _ ih=>cases i with
  | zero=>cases e;exact⟨_,rfl,r⟩
  | succ i=>exact ih (i:=i) e
theorem Jm {α : Type}{R R' : α→Value→Prop}(k : ∀ a v,R a v→R' a v) {xs : List α}{l : List Value}(p : Paired R xs l) : Paired R' xs l:=Un k p
theorem w_draw {a it : Addr}{l : List Value}(hl : as.length=os.length) (z : At g.hp a (.li l)) (n i : Nat) (h : Heap) (Q : List Value→Heap→Prop) (H : Led c env g ns vs (as ++ [it]) (os ++ [.itL a i]) h) (hn : i + n≤l.length) (k : ∀ h',Led c env g ns vs (as ++ [it]) (os ++ [.itL a (i + n)]) h'→Q ((l.drop i).take n) h') : W c A (draw (.ref it) n) Q X h:=by
 induction n generalizing i h Q with
 | zero=>exact fun kk=>wpAny_pure ⟨⟨rfl,rfl,rfl⟩,k h H⟩
 | succ n ih =>
  intro kk
  have hi : i < l.length:=S6 (Nat.lt_add_of_pos_right (Nat.succ_pos n)) hn
  have en : i + (n + 1)=i + 1 + n:=by rw[Nat.add_assoc,Nat.add_comm 1]
  refine wpAny_bind (wpAny_mono (w_nextL (Q:=fun r h'=>Ex1 fun v=>An3 (r=some v) (l[i]?=some v) (Led c env g ns vs (as ++ [it]) (os ++ [.itL a (i + 1)]) h')) (X:=X) H (Ze rfl) (Ze hl) (.fz z) (Nc hi) (fun h' H'=>⟨_,rfl,Nc hi,by rw[Yt hl] at H';exact H'⟩) kk) (fun r s1 q=>?_) fun o_ o_ q=>q)
  obtain⟨o,v,rfl,hv,H'⟩:=q
  rw[o.eq]
  refine wpAny_bind (wpAny_holding (wpAny_mono (ih (i + 1) _ (fun r h'=>r=(l.drop (i + 1)).take n∧Led c env g ns vs (as ++ [it]) (os ++ [.itL a (i + 1 + n)]) h') H' (en ▸ hn) (fun h' H'=>⟨rfl,H'⟩) s1.toks) (fun r s2 q=>?_) fun o_ o_ q=>q))
  obtain⟨o2,rfl,H2⟩:=q
  refine wpAny_pure ⟨o2,?_⟩
  have:=k s2.heap (by rw[en];exact H2)
  rw[Nc hi] at hv
  cases hv
  rw[List.drop_eq_getElem_cons hi,List.take_succ_cons] at this
  exact this
theorem w_unpackL {a : Addr}{l : List Value}{n : Nat}{Q : List Value→Heap→Prop}(hh : A.handled=none) (H : Led c env g ns vs as os h) (z : At g.hp a (.li l)) (hn : n=l.length) (k : ∀ h',Led c env g ns vs as os h'→Q l h') : W c A (unpackItems (.ref a) n none) Q X h:=fun kk=>by
 subst hn
 have hl:=H.len
 unfold unpackItems
 refine wpAny_bind ?_
 unfold notIterableAtAll
 refine wpAny_bind (wpAny_specialOf (H.get (.fz z)).isList.typeIs slot_list_iter.lookup ?_)
 refine wpAny_pure ?_
 simp only[Bool.false_eq_true,if_false]
 refine wpAny_bind (wpAny_holding (wpAny_mono (Jl (Q:=fun r h'=>∃ it,r=.ref it∧Led c env g ns vs (as ++ [it]) (os ++ [.itL a 0]) h') (X:=noX) H (.fz z) (fun it h' H'=>⟨it,rfl,H'⟩) kk) (fun r s1 q=>?_) fun o_ o_ q=>q.2.elim))
 obtain⟨o,it,rfl,H1⟩:=q
 rw[o.eq]
 refine wpAny_bind (wpAny_holding (wpAny_mono (w_draw (X:=noX) hl z l.length 0 _ (fun r h'=>r=l∧Led c env g ns vs (as ++ [it]) (os ++ [.itL a l.length]) h') H1 (by lia) (fun h' H'=>⟨by rw[List.drop_zero,List.take_length],by rw[Nat.zero_add] at H';exact H'⟩) s1.toks) (fun r s2 q=>?_) fun o_ o_ q=>q.2.elim))
 obtain⟨o2,rfl,H2⟩:=q
 rw[if_neg (by simp),o2.eq]
 refine wpAny_bind (wpAny_holding (wpAny_mono (w_stopL (Q:=fun r h'=>r=none∧Led c env g ns vs as os h') (X:=noX) hh H2 (Ze rfl) (Ze hl) (.fz z) (Nat.le_refl _) (fun h' H'=>⟨rfl,by rw[Yw rfl,Yw hl] at H';exact H'⟩) s2.toks) (fun r s3 q=>?_) fun o_ o_ q=>q.2.elim))
 obtain⟨o3,rfl,H3⟩:=q
 simp only[Option.isSome_none,Bool.false_eq_true,if_false]
 exact wpAny_pure ⟨o3,k _ H3⟩
theorem w_asgL {elts : List Expr}{k : Nat}{pos : Pos}{a : Addr}{l : List Value}{Q : Unit→Heap→Prop}(hh : A.handled=none) (H : Led c env g ns vs as os h) (z : At g.hp a (.li l)) (hn : (assignEach elts env).length=l.length)
 (y : ∀ h',Led c env g ns vs as os h'→W c A (assignInOrder ((assignEach elts env).map (·.2)) l) Q X h') (hstar : autoParam ((assignEach elts env).findIdx? (·.1)=none) zR) : W c A (assign (.Tuple elts k pos) env (.ref a)) Q X h:=fun kk=>by
 rw[assign_Tuple]
 refine wpAny_bind (wpAny_standAt ?_)
 unfold unpack
 rw[hstar]
 refine wpAny_bind (wpAny_holding (wpAny_mono (w_unpackL (Q:=fun r h'=>r=l∧Led c env g ns vs as os h') (X:=noX) hh H z hn (fun h' H'=>⟨rfl,H'⟩) kk) (fun r s1 q=>?_) fun o_ o_ q=>q.2.elim))
 obtain⟨o,rfl,H1⟩:=q
 exact Zy (y _ H1) o
theorem w_lots {elts : List Expr}{x1 : Nat}{pos : Pos}{it a : Addr}{T : Value}{i : Nat}{Q : Unit→Heap→Prop}(x : At h it (.itL a i)) (q : Q () h) : W c A (letOwnedTupleGo (.Tuple elts x1 pos) (.ref it) T) Q X h:=fun kk=>by
 obtain⟨o,e,hc,hd⟩:=x
 cases T with
 | ref t=>exact wpAny_letOwnedTupleGo_listiter (s:=stt c h kk) ⟨o,e,hc,hd⟩ ⟨⟨rfl,rfl,rfl⟩,q⟩
 | _=>exact wpAny_pure ⟨⟨rfl,rfl,rfl⟩,q⟩
theorem sb_forT {elts : List Expr}{x1 : Nat}{tpos : Pos}{iter : Expr}{body rest : List Stmt}{p : Pos}{a : Addr}{l : List Value}{Q : Flow→Heap→Prop}(F : Heap→Prop) (J : Nat→Bas→List (Option Value)→List Addr→List Sp→Prop) (hh : A.handled=none) (x : EV c A env iter g ns vs as os (·=.ref a)) (z : At g.hp a (.li l))
 (hJ : J 0 g vs as os) (hD : ∀ i g vs as os,J i g vs as os→At g.hp a (.li l))
 (turn : let J':=J;let F':=F;∀ i it,let QL:=LoopQ (JL c env ns it (.itL a (i + 1)) (J' (i + 1))) F' Q;∀ (g : Bas) vs as os v h,l[i]?=some v→J' i g vs as os→Led c env g ns vs (as ++ [it]) (os ++ [.itL a (i + 1)]) h→W c A (assign (.Tuple elts x1 tpos) env v) (fun o_ h''=>W c A (execs body env) QL noX h'') noX h)
 (fn : ∀ (g : Bas) vs as os h,J l.length g vs as os→Led c env g ns vs as os h→F h)
 (fin : ∀ h,F h→W c A (execs rest env) Q X h)
 (hs : autoParam (∀ x,foldedSetIterable iter env x=pure x) zI) : SB c A env (.For (.Tuple elts x1 tpos) iter body [] p :: rest) g ns vs as os Q X:=fun h H=>Yz fun kk=>by
 refine wpAny_For (wpAny_mono (x h H kk) (fun v s1 q=>?_) fun o_ o_ q=>⟨q.1,q.2.elim⟩) hs
 obtain⟨q1,q2,rfl⟩:=q
 rw[q1.eq,q2]
 refine wpAny_mono (Jl (Q:=fun r h'=>∃ it,r=.ref it∧Led c env g ns vs (as ++ [it]) (os ++ [.itL a 0]) h') (X:=X) H (.fz z) (fun it h' H'=>⟨it,rfl,H'⟩) _) (fun itv s2 q2=>?_) fun o_ o_ q=>q
 obtain⟨o2,it,rfl,H0⟩:=q2
 have wk : Wk c A it l.length (fun i=>.itL a i) (fun i v=>l[i]?=some v) (fun g=>At g a (.li l)):=Xk hh
 refine codeAny_mono (codeAny_forLoop_any (I:=fun m s=>An2 (Okk c s) (Ex1 fun i=>An3 (m=l.length - i) (i≤l.length) (JL c env ns it (.itL a i) (J i) s.heap))) (R:=fun r s'=>match r with | .ok f=>Okk c s'∧(match f with | .next=>W c A (execs rest env) Q X s'.heap | f=>Q f s'.heap) | .error _=>False) (fun m s hI=>?_) l.length ⟨o2,0,rfl,Nat.zero_le _,g,vs,as,os,hJ,H0⟩) fun r s' q=>?_
 ·refine Jd ?_
  intro Q2 X2
  obtain⟨o3,i,rfl,hi,g1,vs1,as1,os1,hJ,H1⟩:=hI
  rw[o3.eq]
  rcases Nat.lt_or_ge i l.length with hlt | hge
  ·refine wpAny_mono (wk.nxt H1 (Ze rfl) (Ze H1.len1) (hD _ _ _ _ _ hJ) hlt _) (fun r s3 q=>?_) fun o_ o_ q=>q.2.elim
   obtain⟨o4,v,rfl,hI,H2⟩:=q
   rw[Yt H1.len1] at H2
   refine wpAny_mono (Zy (w_lots (Q:=fun o_ h'=>h'=s3.heap) (X:=noX) (H2.at_ as1.length it _ (Ze rfl) (Ze H1.len1)) rfl) o4) (fun o_ s3' q'=>?_) fun o_ o_ q=>q.2.elim
   obtain⟨o4',e4⟩:=q'
   rw[← e4] at H2
   refine wpAny_mono (Zy (turn i it _ _ _ _ v _ hI hJ H2) o4') (fun o_ s4 q=>?_) fun o_ o_ q=>q.2.elim
   refine wpAny_mono (Zy q.2 q.1) (fun f s5 q=>?_) fun o_ o_ q=>q.2.elim
   cases f with
   | next=>exact⟨l.length - (i + 1),Nat.sub_lt_sub_left hlt (Nat.lt_succ_self i),q.1,i + 1,rfl,hlt,q.2⟩
   | cont=>exact⟨l.length - (i + 1),Nat.sub_lt_sub_left hlt (Nat.lt_succ_self i),q.1,i + 1,rfl,hlt,q.2⟩
   | brk=>exact⟨q.1,fin _ q.2⟩
   | ret v=>exact q
  ·obtain rfl : i=l.length:=by lia
   refine wpAny_mono (wk.stp H1 (Ze rfl) (Ze H1.len1) (hD _ _ _ _ _ hJ) _) (fun r s3 q=>?_) fun o_ o_ q=>q.2.elim
   obtain⟨o4,rfl,H2⟩:=q
   rw[Yw rfl,Yw H1.len1] at H2
   exact wpAny_execs_nil ⟨o4,fin _ (fn _ _ _ _ _ hJ H2)⟩
 ·cases r with
  | ok f=>cases f <;> exact q
  | error e=>exact q.elim
theorem ev_repl {a y z n : Str}{t : Tok}{x : Str}{xp p1 p2 p3 ap pos p : Pos}{k1 k2 k3 : Nat}(i : Nat) (hn : ns[i]?=some x) (hv : vs[i]?=some (some (.str n t))) (hyz : (y == z)=false) (h1 : n.length < 1000) (h2 : z.length < 1000) (h3 : a.length + (Txt.replace n y z).length < 100000)
 (hbase : autoParam (attributeBase (.Name x xp) "replace" env (eval (.Name x xp) env)=eval (.Name x xp) env) zR) (hline : autoParam ((ap.endLine == pos.line)=true) zR) :
 EV c A env (.BinOp (.Constant (.str a) k1 p1) .Add (.Call (.Attribute (.Name x xp) "replace" ap) [.Constant (.str y) k2 p2,.Constant (.str z) k3 p3] [] pos) p) g ns vs as os (isS (a ++ Txt.replace n y z)):=fun h H k=>by
 refine wpAny_BinOp (wpAny_Constant_str ?_)
 refine wpAny_Call_method hbase rfl hline PySem.F.plainAttrs_str PySem.F.slot_str_replace PySem.F.type_str_replace ?_
 have hm:=Nd hn
 refine wpAny_Name (wpAny_loadName_local H.eo.knd (H.eo.kinds x hm) H.fr.ns (lmap_get H.eo.nd hn hv) ?_) ?_
 ·refine⟨typeIs_str _ _ _,fun a e=>(by cases e),?_⟩
  refine Calls.callWith_builtin (first:=[.str n t]) rfl (Calls.evalArgs_plain (wpAny_items_cons (wpAny_Constant_str (wpAny_items_cons (wpAny_Constant_str (wpAny_items_nil ?_))))))
  refine SC.replace (u:=k + 1) (v:=k + 1 + 1) (Nat.succ_ne_zero _) (Nat.succ_ne_zero _) (Nat.ne_of_lt (Nat.lt_succ_self _)) hyz ?_ fun t' kk=>?_
  ·have : (n.length + 1) * z.length≤1000 * 1000:=Nat.mul_le_mul (by assumption) (by exact r7 ‹_›)
   exact S7 (Nat.add_le_add (Na ‹n.length < 1000›) this) (by decide)
  ·exact PyProof.Rows.add_str (fun t' tk=>⟨⟨rfl,rfl,rfl⟩,rfl,_,rfl⟩) (by rw[sizeLine_eq];exact q3 ‹_› (by decide))
 ·cases q : x == ("__debug__" : Str) with
  | false=>rfl
  | true=>exact absurd (eq_of_beq q ▸ hm) H.eo.dbg
noncomputable def ds (m : Int) : Str:=Str.ofString (toString m)
noncomputable def nmL : List Str:=[Str.ofString "it's",Str.ofString "#",Str.ofString "",Str.ofString "a b",Str.ofString "\\",Str.ofString "1",Str.ofString "-",Str.ofString "'",Str.ofString "z"]
theorem n_sum (P : Params) : nsIn (K P) mainGlobals "sum"=some none:=by kernel_rfl
noncomputable abbrev V1 : FuncData:=Xl (st 33) "_law_rows" .none (.str "law_dn0072_05" 1378) (.ref 886)
noncomputable abbrev lsRW : List PySem.Str:=["total","rows","lines","name","first","second","word"]
noncomputable abbrev cfRW (L : Addr) : List (PySem.Str × Addr):=[("names",L + 5),("cells",L + 4),("bound",L + 3),("n",L + 2),("script",L + 1)]
theorem F_rw : FnC 887 V1 (fnB (st 33)) lsRW cfRW:=⟨fun P=>by kernel_rfl,fun P=>by kernel_rfl,rfl,by kernel_rfl,dk,dk,dk,rfl,rfl,by kernel_rfl,by kernel_rfl,rfl,fun L=>by kernel_rfl,fun L=>by simp;exact dk⟩
theorem B_rw (a : Value) : bindArgs V1 ⟨[a],[]⟩=pure [(Str.ofString "script",a)]:=by kernel_rfl
theorem w_tailL {l i : Expr}{a : Addr}{xs : List Value}{k : Int}{t : Tok}{v : Value}{Q : Value→Heap→Prop}(z : At h a (.li xs)) (h0 : 0≤k) (hz : xs.length < 2 ^ 63) (hv : xs[k.toNat]?=some v) (q : Q v h)
 (hs : autoParam (subscripted i false (.ref a) (.int k t)=operate [.ref a,.int k t] (getItem (.ref a) (.int k t))) zU) : W c A (subscriptTail l i (.ref a) (.int k t)) Q X h:=fun kk=>by
 have hl:=z.isList
 have hk:=(Nf hv).1
 exact tail_any (s:=stt c h kk) (Heap.IsList.typeIs (s:=stt c h kk) hl) slot_list_getitem.lookup (wpAny_getItem_list (s:=stt c h kk) hl h0 (xl hk hz) (by simpa using hv) ⟨⟨rfl,rfl,rfl⟩,q⟩) hs
theorem ev_strI {f : Str}{fp pos : Pos}{e : Expr}{m : Int}{Q : Value→Heap→Prop}(H : Led c env g ns vs as os h) (hf : EV c A env (.Name f fp) g ns vs as os (·=.type "str")) (hm : m.natAbs.log2 < 1920) (y : W c A (eval e env) (fun v h'=>isI m v∧∀ t,Q (.str (ds m) t) h') X h)
 (he : autoParam (starEach [e] env=(false,eval e env) :: starEach [] env) zR) : W c A (eval (.Call (.Name f fp) [e] [] pos) env) Q X h:=
 Xo H hf (Zi (Zh y (fun v h' q=>by
  obtain⟨⟨t,rfl⟩,q⟩:=q
  exact Zd fun kk=>P.str_of_int (s:=stt c h' kk) hm ⟨⟨rfl,rfl,rfl⟩,q _⟩) fun o_ o_ q=>q) he) he
theorem Led.init {a : Addr}{sp : Sp}(H : Led c env g ns vs (as ++ [a]) (os ++ [sp]) h) : Led c env g ns vs as os h:=by
 have hl : as.length=os.length:=by have:=H.len;simp at this;exact this
 have:=H.take as.length
 rwa [List.take_left' rfl,List.take_left' hl.symm] at this
theorem log_ok {m : Int}(h0 : 0≤m) (h1 : m < 10 ^ 30) : m.natAbs.log2 < 1920:=by
 by_cases e : m.natAbs=0
 ·rw[e];decide
 ·have h2 : m.natAbs < 10 ^ 30:=Int.ofNat_lt.mp (by rw[Int.natAbs_of_nonneg h0];exact h1)
  have h3 : m.natAbs < 2 ^ 100:=S8 h2 (by decide)
  exact S8 ((Nat.log2_lt e).mpr h3) (by decide)
theorem Zu {α : Type}{R : α→Value→Prop}{xs : List α}{l : List Value}(p : Paired R xs l) : xs.length=l.length:=by
 induction p with
 | nil=>rfl
 | cons _ _ ih=>exact congrArg Nat.succ ih
theorem picks {P : Int→Prop}{S : Int→Str}{l : List Value}(h : ∀ (i : Nat) v,l[i]?=some v→∃ m,isS (S m) v∧P m) : ∃ ms : List Int,Paired (fun m v=>isS (S m) v) ms l∧∀ m∈ms,P m:=by
 induction l with
 | nil=>exact⟨[],.nil,fun m hm=>by cases hm⟩
 | cons v l ih =>
  obtain⟨m,h1,h2⟩:=h 0 v rfl
  obtain⟨ms,h3,h4⟩:=ih fun i v e=>h (i + 1) v e
  exact⟨m :: ms,.cons h1 h3,List.forall_mem_cons.mpr ⟨h2,h4⟩⟩
theorem w_methS {o : Expr}{name : Str}{apos pos : Pos}{e : Expr}{es : List Expr}{id : String}{x : Str}{Q : Value→Heap→Prop}(H : Led c env g ns vs as os h)
 (y : EV c A env o g ns vs as os (isS x)) (slot : Slot "str" name id) (hty : typeOf (.builtin id)=pure (.type "method_descriptor"))
 (z : ∀ t,WS c A env (e :: es) pos (fun l h'=>W c A (call (.builtin id) (.str x t :: l)) Q X h') X h)
 (he : autoParam (starEach (e :: es) env=(false,eval e env) :: starEach es env) zR) (hplain : autoParam ((backTo pos (starEach es env)).any (·.1)=false) zR)
 (hbase : autoParam (attributeBase o name env (eval o env)=eval o env) zR)
 (hfew : autoParam (((backTo pos (starEach (e :: es) env)).all (fun x=>!x.1) && (backToKw pos (keywordEach [] env)).all (fun x=>x.1.isSome)
  && decide ((e :: es).length + ([] : List Keyword).length + (if ([] : List Keyword).isEmpty then 0 else 1) < 30))=true) zR)
 (hline : autoParam ((apos.endLine == pos.line)=true) zR) : W c A (eval (.Call (.Attribute o name apos) (e :: es) [] pos) env) Q X h:=fun k =>
 wpAny_Call_method hbase hfew hline PySem.F.plainAttrs_str slot hty (wpAny_mono (y h H k) (fun ov s1 q=>by
  obtain⟨q1,q2,t,rfl⟩:=q
  rw[q1.eq,q2]
  refine⟨typeIs_str _ _ _,fun a e=>(by cases e),?_⟩
  have x':=z t s1.toks
  rw[he] at x' ⊢
  exact Calls.callWith_builtin (first:=[.str x t]) (by show (false || (backTo pos (starEach es env)).any (·.1))=false;rw[hplain];rfl) (Calls.evalArgs_plain (wpAny_mono x' (fun l s2 q2=>Zy q2.2 q2.1) fun o_ o_ q=>q))) fun o_ o_ q=>⟨q.1,q.2.elim⟩)
theorem strsAre {xs : List Str}{l : List Value}(p : Paired (fun w v=>isS w v) xs l) : StrsAre l xs:=by
 induction p with
 | nil=>exact .nil
 | cons x _ ih=>obtain⟨t,e⟩:=x;subst e;exact .cons _ t ih
noncomputable def X0 (hp : Heap) (r : List Str) (v : Value) : Prop:=∃ a us,v=.ref a∧At hp a (.li us)∧Paired (fun w v=>isS w v) r us
noncomputable def rowsOf (n : Nat) (ms : List Int) : List (List Str):=(List.range n).map fun i=>[nmL.getD i (Str.ofString ""),ds (ms.getD (2 * i) 0),ds (ms.getD (2 * i + 1) 0)]
noncomputable def Z4 (e : Bool) (n : Str) : Str:=if e then Str.ofString "'" ++ Txt.replace n (Str.ofString "'") (Str.ofString "'\\''") ++ Str.ofString "'" else Str.ofString "\"" ++ Txt.replace n (Str.ofString "\\") (Str.ofString "\\\\") ++ Str.ofString "\""
noncomputable def Y3 (e : Bool) (r : List Str) : Str:=Z4 e (r.getD 0 (Str.ofString "")) ++ Str.ofString " " ++ r.getD 1 (Str.ofString "") ++ Str.ofString "\t" ++ r.getD 2 (Str.ofString "") ++ Str.ofString "# 'til \\"
theorem x1 : (Str.ofString " ").length=1:=dk
theorem x2 : (Str.ofString "\t").length=1:=dk
theorem x3 : (Str.ofString "# 'til \\").length=8:=dk
theorem Su {r0 : Str}(b : Bool) (q1 : (Txt.replace r0 (Str.ofString "'") (Str.ofString "'\\''")).length < 1000) (q2 : (Txt.replace r0 (Str.ofString "\\") (Str.ofString "\\\\")).length < 1000) : (Z4 b r0).length < 1010:=by
 unfold Z4
 split <;> rw[Str.length_append,Str.length_append]
 ·have e1 : (Str.ofString "'").length=1:=dk
  rw[e1,Nat.add_comm 1];exact S8 (Nat.succ_lt_succ (Nat.succ_lt_succ q1)) (by decide)
 ·have e1 : (Str.ofString "\"").length=1:=dk
  rw[e1,Nat.add_comm 1];exact S8 (Nat.succ_lt_succ (Nat.succ_lt_succ q2)) (by decide)
theorem X0.mono {g g' : Heap}{r : List Str}{v : Value}(x : X0 g r v) (k : g.StaysIn g') : X0 g' r v:=by obtain⟨a,us,e,za,p⟩:=x;exact⟨a,us,e,za.stay k,p⟩
theorem rows_lp {L rw : Addr}{tot : Int}{t : Tok}{rs : List (List Str)}{rvs : List Value}(hA : Rm A 3) (hh : A.handled=none) (H : Led c (callEnvC V1 L 887) g lsRW [some (.int tot t),some (.ref rw),none,none,none,none,none] as os h) (zr : At g.hp rw (.li rvs)) (pr : Paired (X0 g.hp) rs rvs) (hrs : rs.length < 100)
 (h3 : ∀ r∈rs,∃ r0 r1 r2,r=[r0,r1,r2]∧r0.length < 100∧r1.length < 100∧r2.length < 100∧(Txt.replace r0 (Str.ofString "'") (Str.ofString "'\\''")).length < 1000∧(Txt.replace r0 (Str.ofString "\\") (Str.ofString "\\\\")).length < 1000) :
 W c A (execs ((fnB (st 33)).drop 5) (callEnvC V1 L 887)) (fun fl h'=>Ex5 fun (ev : Bool) (g' : Bas) (tp : Addr) (tt : Tok) (vs' : List (Option Value))=>An5 (Js fl=.ref tp) (g.hp.StaysIn g'.hp) (g'.fo=g.fo) (Led c (callEnvC V1 L 887) g' lsRW vs' as os h') (At g'.hp tp (.tu [.ref rw,.str (Txt.join (Str.ofString "\n") (rs.map (Y3 ev))) tt]))) noX h:=by
 refine Zl ?_
 intro Q'
 have hl:=H.len
 have hrl:=Zu pr
 refine Zz ?_
 refine Je (Zd ⟨by rw[sizeLine_eq];simp,?_⟩)
 have H1:=H.newL []
 generalize h.objs.size=ln at *
 refine Zp 2 rfl rfl H1 fun h1 H2=>?_
 refine (?_ : SB c _ _ _ _ _ _ _ _ _ _) h1 H2
 refine sb_forT (fun h'=>Ex6 fun (g' : Bas) (lvs : List Value) (v3 v4 v5 v6 : Option Value)=>An4 (g.hp.StaysIn g'.hp) (g'.fo=g.fo) (Paired (fun w v=>isS w v) (rs.map (Y3 (decide (tot.fmod 2=0)))) lvs) (Led c (callEnvC V1 L 887) g' lsRW [some (.int tot t),some (.ref rw),some (.ref ln),v3,v4,v5,v6] (as ++ [ln]) (os ++ [.li lvs]) h'))
  (fun i g' vs' as' os'=>Ex5 fun (lvs : List Value) (v3 v4 v5 v6 : Option Value)=>An6 (g.hp.StaysIn g'.hp) (g'.fo=g.fo) (Paired (fun w v=>isS w v) ((rs.take i).map (Y3 (decide (tot.fmod 2=0)))) lvs) (vs'=[some (.int tot t),some (.ref rw),some (.ref ln),v3,v4,v5,v6]) (as'=as ++ [ln]) (os'=os ++ [.li lvs]))
  hh (Za 1 rfl rfl) zr ⟨[],none,none,none,none,Zt _,rfl,.nil,rfl,rfl,rfl⟩ (by rintro i g' vs' as' os' ⟨_,_,_,_,_,k,_⟩;exact zr.stay k) ?_ ?_ ?_
 ·rintro J' F' i it QL g' o_ o_ o_ v h2 hv ⟨lvs,v3,v4,v5,v6,k1,f1,p1,rfl,rfl,rfl⟩ H3
  refine H3.lv ?_
  intro vl H3
  have hi : i < rs.length:=by rw[hrl];exact (Nf hv).1
  obtain⟨v',ev',a,us,rfl,za,pu⟩:=Yn pr (Nc hi)
  rw[hv] at ev';cases ev'
  obtain⟨r0,r1,r2,er,l0,l1,l2,q1,q2⟩:=h3 _ (List.getElem_mem hi)
  rw[er] at pu
  cases pu with
  | cons hu0 pu =>
  cases pu with
  | cons hu1 pu =>
  cases pu with
  | cons hu2 pu =>
  cases pu
  obtain⟨t0,rfl⟩:=hu0
  obtain⟨t1,rfl⟩:=hu1
  obtain⟨t2,rfl⟩:=hu2
  refine w_asgL hh H3 (za.stay k1) rfl fun h4 H4=>?_
  refine Yi (Yp 3 rfl rfl H4 fun h5 H5=>?_)
  refine Yi (Yp 4 rfl rfl H5 fun h6 H6=>?_)
  refine Yi (Yp 5 rfl rfl H6 fun h7 H7=>Ud ?_)
  have hwl:=Su (decide (tot.fmod 2=0)) q1 q2
  refine (?_ : SB c _ _ _ _ _ _ _ _ _ _) h7 H7
  refine Zs (R:=isS (Z4 (decide (tot.fmod 2=0)) r0)) 6 rfl rfl ?_ ?_
  ·by_cases he : tot.fmod 2=0
   ·have e1 : Z4 (decide (tot.fmod 2=0)) r0=Str.ofString "'" ++ Txt.replace r0 (Str.ofString "'") (Str.ofString "'\\''") ++ Str.ofString "'":=by unfold Z4;rw[decide_eq_true he];rfl
    rw[e1]
    exact ev_ifT ((Zb (Te (Zj 0 rfl rfl) ev_i (by decide)) ev_i Sd).cast (by rw[he];rfl)) (Uz (ev_repl 3 rfl rfl dk (by exact q4 ‹_› (by decide)) dk (by rw[show (Str.ofString "'").length=1 from dk,Nat.add_comm];exact S8 (Nat.succ_lt_succ q1) (by decide))) ev_s (by rw[Str.length_append,show (Str.ofString "'").length=1 from dk,Nat.add_comm 1];exact S8 (Nat.succ_lt_succ (Nat.succ_lt_succ q1)) (by decide)))
   ·have e1 : Z4 (decide (tot.fmod 2=0)) r0=Str.ofString "\"" ++ Txt.replace r0 (Str.ofString "\\") (Str.ofString "\\\\") ++ Str.ofString "\"":=by unfold Z4;rw[decide_eq_false he];rfl
    rw[e1]
    exact ev_ifF ((Zb (Te (Zj 0 rfl rfl) ev_i (by decide)) ev_i Sd).cast (beq_eq_false_iff_ne.mpr he)) (Uz (ev_repl 3 rfl rfl dk (by exact q4 ‹_› (by decide)) dk (by rw[show (Str.ofString "\"").length=1 from dk,Nat.add_comm];exact S8 (Nat.succ_lt_succ q2) (by decide))) ev_s (by rw[Str.length_append,show (Str.ofString "\"").length=1 from dk,Nat.add_comm 1];exact S8 (Nat.succ_lt_succ (Nat.succ_lt_succ q2)) (by decide)))
  rintro o_ ⟨tw,rfl⟩ h8 H8
  have ia : (as ++ [ln] ++ [it])[as.length]?=some ln:=Yh rfl
  have io : (os ++ [Sp.li lvs] ++ [Sp.itL rw (i + 1)])[as.length]?=some (.li lvs):=Yh hl
  have hd:=H8.hd ia io
  have hlv:=Zu p1
  have hlv2 : lvs.length < 1000:=by rw[← hlv,List.length_map,List.length_take];exact S5 (Nat.min_le_right _ _) (S8 hrs (by decide))
  have c1:=Nat.add_lt_add hwl (Nat.lt_succ_self 1)
  have c2:=Nat.add_lt_add c1 l1
  have c3:=Nat.add_lt_add c2 (Nat.lt_succ_self 1)
  have c4:=Nat.add_lt_add c3 l2
  refine Yj (Xa H8 (Za 2 rfl rfl) PySem.F.plainAttrs_list PySem.F.slot_list_append PySem.F.type_list_append hd.1 hd.2 ?_)
  refine Zi ((Uz (Uz (Uz (Uz (Uz (Zk 6 rfl rfl) ev_s ?_) (Zk 4 rfl rfl) ?_) ev_s ?_) (Zk 5 rfl rfl) ?_) ev_s ?_ : EV c _ _ _ _ _ _ _ _ _).runS H8 fun tv=>Zd (X8 H8 ia io (by rw[sizeLine_eq];exact q3 ‹_› (by decide)) fun h9 H9=>?_))
  ·rw[x1];exact S6 c1 (by decide)
  ·rw[Str.length_append,x1];exact S6 c2 (by decide)
  ·rw[Str.length_append,Str.length_append,x1,x2];exact S6 c3 (by decide)
  ·rw[Str.length_append,Str.length_append,Str.length_append,x1,x2];exact S6 c4 (by decide)
  ·rw[Str.length_append,Str.length_append,Str.length_append,Str.length_append,x1,x2,x3];exact S6 (Nat.add_lt_add c4 (Nat.lt_succ_self _)) (by decide)
  rw[V9 hl] at H9
  refine Zg (fun h10 H10=>⟨g',_,_,_,⟨_,_,_,_,_,k1,f1,?_,rfl,rfl,rfl⟩,H10⟩) h9 H9
  rw[List.take_succ_eq_append_getElem hi,List.map_append,er]
  exact p1.snoc ⟨tv,rfl⟩
 ·rintro g' o_ o_ o_ h' ⟨lvs,v3,v4,v5,v6,k1,f1,p1,rfl,rfl,rfl⟩ H'
  rw[← hrl,List.take_length] at p1
  exact⟨g',lvs,v3,v4,v5,v6,k1,f1,p1,H'⟩
 ·rintro h' ⟨g',lvs,v3,v4,v5,v6,k1,f1,p1,H'⟩
  refine (?_ : SB c _ _ _ _ _ _ _ _ _ _) h' H'
  refine J8 fun h2 H2=>?_
  refine Yr (Zq H2 (Za 1 rfl rfl) (Zi (w_methS H2 ev_s PySem.F.slot_str_join PySem.F.type_str_join fun t5=>Zq H2 (Za 2 rfl rfl) (Zd fun kk=>?_))))
  have hL:=(H2.at_ as.length ln _ (Ze rfl) (Ze hl)).isList
  refine join_list (s:=stt c h2 kk) hL (strsAre p1) ?_ fun t6 k6=>⟨⟨rfl,rfl,rfl⟩,Zd ⟨by rw[sizeLine_eq];simp,?_⟩⟩
  ·rw[List.length_map,show (Str.ofString "\n").length=1 from dk]
   have : ∀ l : List (List Str),(∀ r∈l,r∈rs)→((l.map (Y3 (decide (tot.fmod 2=0)))).map (·.length)).sum≤l.length * 2000:=by
    intro l
    induction l with
    | nil=>intro _;simp
    | cons r l ih =>
     intro hr
     have h1:=ih fun r hr'=>hr r (.tail _ hr')
     obtain⟨r0,r1,r2,er,l0,l1,l2,q1,q2⟩:=h3 r (hr r (.head _))
     have h2 : (Y3 (decide (tot.fmod 2=0)) r).length≤2000:=by
      subst er
      have hw:=Su (decide (tot.fmod 2=0)) q1 q2
      show (Z4 _ r0 ++ Str.ofString " " ++ r1 ++ Str.ofString "\t" ++ r2 ++ Str.ofString "# 'til \\").length≤2000
      rw[Str.length_append,Str.length_append,Str.length_append,Str.length_append,Str.length_append,x1,x2,x3];exact S7 (Na (Nat.add_lt_add (Nat.add_lt_add (Nat.add_lt_add (Nat.add_lt_add (Nat.add_lt_add hw (Nat.lt_succ_self 1)) l1) (Nat.lt_succ_self 1)) l2) (Nat.lt_succ_self _))) (by decide)
     rw[List.map_cons,List.map_cons,List.sum_cons,List.length_cons,Nat.succ_mul,Nat.add_comm]
     exact Nat.add_le_add h1 h2
   exact S7 (Nat.add_le_add (S7 (this rs fun o_ h=>h) (Nat.mul_le_mul_right 2000 (Na hrs))) (Nat.mul_le_mul_right 1 (Na hrs))) (by decide)
  ·obtain⟨g6,k6',f6,H7,z7⟩:=(H2.newT [.ref rw,.str (Txt.join (Str.ofString "\n") (rs.map (Y3 (decide (tot.fmod 2=0))))) t6]).solid
   exact⟨decide (tot.fmod 2=0),g6,_,t6,_,rfl,Zc k1 k6',f6.trans f1,H7.init,z7⟩
theorem digs_len (k m : Nat) (h : m < 10 ^ (k + 1)) : (Nat.toDigits 10 m).length≤k + 1:=by
 induction k generalizing m with
 | zero=>rw[Nat.toDigits_of_lt_base h];exact Nat.le_refl _
 | succ k ih =>
  by_cases hm : m < 10
  ·rw[Nat.toDigits_of_lt_base hm];exact Nat.succ_pos _
  ·have hr : m % 10 < 10:=Nat.mod_lt m (by decide)
   have t : Nat.toDigits 10 (m / 10) ++ Nat.toDigits 10 (m % 10)=Nat.toDigits 10 (10 * (m / 10) + m % 10):=Nat.toDigits_append_toDigits (by decide) (Nat.div_pos (Nat.le_of_not_lt hm) (by decide)) hr
   rw[Nat.div_add_mod] at t
   rw[← t,List.length_append,Nat.toDigits_of_lt_base hr]
   exact Nat.succ_le_succ (ih (m / 10) ((Nat.div_lt_iff_lt_mul (by decide)).mpr h))
theorem ds_list {m : Int}(h0 : 0≤m) : (ds m).cps.toList=(Nat.toDigits 10 m.toNat).map Char.toNat:=by
 obtain⟨k,rfl⟩:=Int.eq_ofNat_of_zero_le h0
 exact KIN.signs_num k
theorem T6 {m : Int}(h0 : 0≤m) (h1 : m < 10 ^ 30) : (ds m).length≤30:=by
 rw[← M5,ds_list h0,List.length_map]
 exact digs_len 29 m.toNat ((Int.toNat_lt h0).mpr h1)
theorem nm_ok : ∀ i,i < 9→(nmL.getD i (Str.ofString "")).length < 100∧(Txt.replace (nmL.getD i (Str.ofString "")) (Str.ofString "'") (Str.ofString "'\\''")).length < 1000∧(Txt.replace (nmL.getD i (Str.ofString "")) (Str.ofString "\\") (Str.ofString "\\\\")).length < 1000:=dk
theorem rows_tl {L acc l : Addr}{tot bd : Int}{t t1 tb : Tok}{N : Nat}{ms : List Int}{cvs : List Value}(hA : Rm A 3) (hh : A.handled=none) (hl : as.length=os.length) (hN5 : 5≤N) (hN9 : N≤9) (hml : ms.length=2 * N) (hms : ∀ m∈ms,0≤m∧m < 10 ^ 30)
 (H13 : Led c (callEnvC V1 L 887) g lsRW [some (.int tot t),none,none,none,none,none,none] (as ++ [L + 5,L + 4,L + 3,L + 2,L + 1]) (os ++ [.ce none,.ce (some (.ref acc)),.ce (some (.int bd tb)),.ce (some (.int N t1)),.ce (some (.ref l))]) h) (zc : At g.hp acc (.li cvs)) (pm : Paired (fun m v=>isS (ds m) v) ms cvs) :
 W c A (execs ((fnB (st 33)).drop 3) (callEnvC V1 L 887)) (fun fl h'=>Ex8 fun (ev : Bool) (g' : Bas) (tp rw : Addr) (rvs : List Value) (tt : Tok) (vs' : List (Option Value)) (O' : List Sp)=>An8 (Js fl=.ref tp) (O'.length=5) (g.hp.StaysIn g'.hp) (g'.fo=g.fo) (Led c (callEnvC V1 L 887) g' lsRW vs' (as ++ [L + 5,L + 4,L + 3,L + 2,L + 1]) (os ++ O') h') (At g'.hp tp (.tu [.ref rw,.str (Txt.join (Str.ofString "\n") ((rowsOf N ms).map (Y3 ev))) tt])) (At g'.hp rw (.li rvs)) (Paired (X0 g'.hp) (rowsOf N ms) rvs)) noX h:=by
 refine Zl ?_
 intro Q'
 have gA : ∀ {i : Nat}{a : Addr},[L + 5,L + 4,L + 3,L + 2,L + 1][i]?=some a→(as ++ [L + 5,L + 4,L + 3,L + 2,L + 1])[as.length + i]?=some a:=fun e=>Zw rfl e
 have gO : ∀ {l' : List Sp}{i : Nat}{a : Sp},l'[i]?=some a→(os ++ l')[as.length + i]?=some a:=fun e=>Zw hl e
 refine Zz ?_
 refine Je ?_
 refine Zi ((ev_s : EV c _ _ _ _ _ _ _ _ _).run H13 fun u1 hu1=>?_)
 refine Zi ((ev_s : EV c _ _ _ _ _ _ _ _ _).run H13 fun u2 hu2=>?_)
 refine Zi ((ev_s : EV c _ _ _ _ _ _ _ _ _).run H13 fun u3 hu3=>?_)
 refine Zi ((ev_s : EV c _ _ _ _ _ _ _ _ _).run H13 fun u4 hu4=>?_)
 refine Zi ((ev_s : EV c _ _ _ _ _ _ _ _ _).run H13 fun u5 hu5=>?_)
 refine Zi ((ev_s : EV c _ _ _ _ _ _ _ _ _).run H13 fun u6 hu6=>?_)
 refine Zi ((ev_s : EV c _ _ _ _ _ _ _ _ _).run H13 fun u7 hu7=>?_)
 refine Zi ((ev_s : EV c _ _ _ _ _ _ _ _ _).run H13 fun u8 hu8=>?_)
 refine Zi ((ev_s : EV c _ _ _ _ _ _ _ _ _).run H13 fun u9 hu9=>?_)
 refine Zd ⟨by rw[sizeLine_eq];simp,?_⟩
 have H14:=H13.newL [u1,u2,u3,u4,u5,u6,u7,u8,u9]
 have pn : Paired (fun w v=>isS w v) nmL [u1,u2,u3,u4,u5,u6,u7,u8,u9]:=.cons hu1 (.cons hu2 (.cons hu3 (.cons hu4 (.cons hu5 (.cons hu6 (.cons hu7 (.cons hu8 (.cons hu9 .nil))))))))
 generalize [u1,u2,u3,u4,u5,u6,u7,u8,u9]=nvs at *
 refine Jh (as.length + 0) (by rfl) (by rfl) (ap (gA rfl) _) (ap (gO rfl) _) H14 fun h15 H15=>?_
 rw[Z6 (by simp;exact yr hl),U3 hl] at H15
 generalize h.objs.size=nma at *
 obtain⟨g3,k3,f3,H16,zn⟩:=H15.solid
 clear H15 H14 H13
 have zc3:=zc.stay k3
 refine w_lcT (ns':=["i"]) (cl:=[("names",L + 5),("cells",L + 4)]) 1 rfl rfl H16 ?_
  (U7 H16 (Zr (by rfl) Jv boot_range) (Mo (by rfl) (by rfl) (.ld (as.length + 3) (gA rfl) (gO rfl))) (yd N) (s9 (Nat.lt_succ_of_le hN9) (by decide)) fun it' h17 H17=>?_) (by kernel_rfl)
 ·exact⟨dk,by kernel_rfl,dk,by kernel_rfl,dk,dk,dk⟩
 refine LcC.all g3 (fun i hp v=>X0 hp [nmL.getD i (Str.ofString ""),ds (ms.getD (2 * i) 0),ds (ms.getD (2 * i + 1) 0)] v) (fun i g1 g2 v k x=>x.mono k) (Zt _) rfl (J4 hh) trivial H17 (by exact q2 ‹_› (by decide)) (fun i g' v h18 E acc2 l2 hi st2 fs2 hI H18=>?_) fun g4 rvs h18 rw hrl hrR st4 fo4 H18=>?_
 ·obtain⟨tv,rfl⟩:=hI
  refine Zl ?_
  intro QX
  refine H18.lvs ?_
  intro vl al ol H18
  have hi9 : i < 9:=by exact r4 ‹_› ‹_›
  obtain⟨nv,en,hnv⟩:=Yn pn (i:=i) (x:=nmL.getD i (Str.ofString "")) (by rw[List.getD_eq_getElem?_getD,Nc (show i < nmL.length from hi9)];rfl)
  obtain⟨c1,ec1,hc1⟩:=Yn pm (i:=2 * i) (x:=ms.getD (2 * i) 0) (by rw[List.getD_eq_getElem?_getD,Nc (show 2 * i < ms.length from xh hml hi)];rfl)
  obtain⟨c2,ec2,hc2⟩:=Yn pm (i:=2 * i + 1) (x:=ms.getD (2 * i + 1) 0) (by rw[List.getD_eq_getElem?_getD,Nc (show 2 * i + 1 < ms.length from xi hml hi)];rfl)
  have pnl:=Zu pn
  have pml:=Zu pm
  have hn9 : nvs.length=9:=pnl.symm
  refine Je (Zq H18 (Yc (v:=nv) (Xv (by kernel_rfl) (by rfl) (.ld (as.length + 0) (ap (ap (gA rfl) _) _) (ap (ap (gO rfl) _) _))) (Zj 0 rfl rfl) (.fz (zn.stay st2)) (by lia) (by lia) (by rw[show (0 + (i : Int)).toNat=i by exact Nat.add_comm _ _];exact en)) ?_)
  refine Zq H18 (Yc (v:=c1) (Xv (by kernel_rfl) (by rfl) (.ld (as.length + 1) (ap (ap (gA rfl) _) _) (ap (ap (gO rfl) _) _))) (Uj ev_i (Zj 0 rfl rfl) (IntMulOk.of_left (by decide))) (.fz (zc3.stay st2)) (by lia) (by lia) (by rw[Int.zero_add];exact ec1)) ?_
  refine Zq H18 (Yc (v:=c2) (Xv (by kernel_rfl) (by rfl) (.ld (as.length + 1) (ap (ap (gA rfl) _) _) (ap (ap (gO rfl) _) _))) (Ji (Uj ev_i (Zj 0 rfl rfl) (IntMulOk.of_left (by decide))) ev_i) (.fz (zc3.stay st2)) (by lia) (by lia) (by rw[Int.zero_add];exact ec2)) ?_
  refine Zd ⟨by rw[sizeLine_eq];simp,?_⟩
  obtain⟨g5,k5,f5,H19,z5⟩:=(H18.newL [nv,c1,c2]).solid
  exact⟨g5,_,k5,f5,H19,_,_,rfl,z5,.cons hnv (.cons hc1 (.cons hc2 .nil))⟩
 obtain⟨g5,k5,f5,H19,zr⟩:=H18.solid
 have hgd : ∀ j,j < 2 * N→0≤ms.getD j 0∧ms.getD j 0 < 10 ^ 30:=fun j hj=>by
  rw[List.getD_eq_getElem?_getD,Nc (by exact q9 ‹_› ‹_›)]
  exact hms _ (List.getElem_mem _)
 have hro : (rowsOf N ms).length=N:=by simp[rowsOf]
 have pr : Paired (X0 g5.hp) (rowsOf N ms) rvs:=by
  refine Vp (by rw[hro,hrl];exact rfl) fun i v r e1 e2=>?_
  have hi : i < N:=by have:=(Nf e2).1;exact r1 ‹_› ‹_›
  have e3 : (rowsOf N ms)[i]?=some [nmL.getD i (Str.ofString ""),ds (ms.getD (2 * i) 0),ds (ms.getD (2 * i + 1) 0)]:=by
   unfold rowsOf
   rw[List.getElem?_map,List.getElem?_range hi];rfl
  rw[e3] at e2;cases e2
  obtain⟨a,us,q1,q2,q3⟩:=hrR i v e1
  exact⟨a,us,q1,q2.stay k5,q3⟩
 refine Zh (rows_lp hA hh H19 zr pr (by exact q6 ‹_› ‹_› (by decide)) ?_) ?_ fun o_ o_ z=>z
 ·intro r hr
  obtain⟨i,hi,rfl⟩:=Ng hr
  have hi:=List.mem_range.mp hi
  obtain⟨q1,q2,q3⟩:=nm_ok i (by exact r4 ‹_› ‹_›)
  have d1:=hgd (2 * i) (xh rfl hi)
  have d2:=hgd (2 * i + 1) (xi rfl hi)
  have e1:=T6 d1.1 d1.2
  have e2:=T6 d2.1 d2.2
  exact⟨_,_,_,rfl,q1,S5 e1 (by decide),S5 e2 (by decide),q2,q3⟩
 ·rintro fl h20 ⟨ev,g6,tp,tt,vs',r1,k6,f6,H20,z6⟩
  exact⟨ev,g6,tp,rw,rvs,tt,vs',_,r1,rfl,fun b o e=>k6 _ _ (k5 _ _ (st4 _ _ (k3 _ _ e))),f6.trans (f5.trans (fo4.trans f3)),H20,z6,zr.stay k6,Jm (fun r v x=>x.mono k6) pr⟩
theorem rw_body : fnB (st 33)=(fnB (st 33)).getD 0 (.Pass ⟨0,0,0,0⟩) :: (fnB (st 33)).getD 1 (.Pass ⟨0,0,0,0⟩) :: (fnB (st 33)).getD 2 (.Pass ⟨0,0,0,0⟩) :: (fnB (st 33)).drop 3:=by kernel_rfl
theorem rows_ok {l : Addr}{svs : List Value}{ks : List Int}(hA : Rm A 4) (hh : A.handled=none) (FA : FR A (env.locals :: g.fs)) (H : Led c env g ns vs as os h) (z : At g.hp l (.li svs)) (pk : pI ks svs) (hk : ks.length < 1000) :
 W c A (call (.ref 887) [.ref l]) (fun v h'=>Ex8 fun (n : Nat) (ev : Bool) (ms : List Int) (g' : Bas) (tp rw : Addr) (rvs : List Value) (tt : Tok)=>An11 (v=.ref tp) (5≤n) (n≤9) (ms.length=2 * n) ((∀ m∈ms,0≤m∧m < 10 ^ 30)) (g.hp.StaysIn g'.hp) (g'.fo=g.fo) (Led c env g' ns vs as os h') (At g'.hp tp (.tu [.ref rw,.str (Txt.join (Str.ofString "\n") ((rowsOf n ms).map (Y3 ev))) tt])) (At g'.hp rw (.li rvs)) (Paired (X0 g'.hp) (rowsOf n ms) rvs)) X h:=by
 refine Zl ?_
 intro Q'
 refine w_fnC (vs':=[none,none,none,none,none,none,none]) (sps:=[.ce none,.ce none,.ce none,.ce none,.ce (some (.ref l))]) (ca:=fun L=>[L + 5,L + 4,L + 3,L + 2,L + 1]) H FA F_rw hA.depth (B_rw _) (fun L x hx=>?_) ?_ (fun L=>?_) (fun L=>rfl) fun L h₁ FO1 ec H1=>?_
 ·simp at hx;subst hx;exact .inr ⟨by kernel_rfl,by kernel_rfl⟩
 ·funext y
  exact (show bindL (fun x=>V1.scope.names.lookup x) [((Str.ofString "script"),Value.ref l)] (fun o_=>none) y=none by kernel_rfl).trans (Vk lsRW y).symm
 ·kernel_rfl
 have hA':=hA.deep (callEnvC V1 L 887)
 have hl:=H.len
 have z1:=z.stay H.stay
 have gA : ∀ {i : Nat}{a : Addr},[L + 5,L + 4,L + 3,L + 2,L + 1][i]?=some a→(as ++ [L + 5,L + 4,L + 3,L + 2,L + 1])[as.length + i]?=some a:=fun e=>Zw rfl e
 have gO : ∀ {l' : List Sp}{i : Nat}{a : Sp},l'[i]?=some a→(os ++ l')[as.length + i]?=some a:=fun e=>Zw hl e
 refine Eq.mpr (congrArg (fun b=>W c _ (execs b _) _ _ _) rw_body) ?_
 refine Zz ?_
 refine (Xj H1 (Zr (by rfl) n_sum boot_sum) (Zq H1 (Xv (by rfl) (by rfl) (.ld (as.length + 4) (gA rfl) (gO rfl))) (Zd (c_sumL hh H1 (.fz z1) pk fun t h₂ H2=>?_))))
 refine Zp 0 rfl rfl H2 fun h₃ H3=>?_
 generalize ks.sum=tot at *
 have hm5 : 0≤tot.fmod 5∧tot.fmod 5 < 5:=⟨Int.fmod_nonneg_of_pos _ (by decide),Int.fmod_lt_of_pos _ (by decide)⟩
 have hm2 : (tot.fdiv 5).fmod 2=0∨(tot.fdiv 5).fmod 2=1:=by
  have h1:=Int.fmod_nonneg_of_pos (tot.fdiv 5) (b:=2) (by decide)
  exact ym h1 (Int.fmod_lt_of_pos (tot.fdiv 5) (by decide))
 refine Vm ?_
 refine (Yr (Zi ((Ji ev_i (Te (Zj 0 rfl rfl) ev_i (by decide)) : EV c _ _ _ _ _ _ _ _ _).runI H3 fun t1=>Zi (w_sub (Je (Zi ((ev_i : EV c _ _ _ _ _ _ _ _ _).runI H3 fun w1=>Zi ((ev_pow ev_i ev_i (by decide) (by decide) (by decide) : EV c _ _ _ _ _ _ _ _ _).runI H3 fun w2=>Zd ⟨by rw[sizeLine_eq];simp,?_⟩))))))))
 have H4:=H3.newL [.int 12 w1,.int (10 ^ (30 : Int).toNat) w2]
 refine (Te (V7 (Zj 0 rfl rfl) ev_i (by decide) (by decide)) ev_i (by decide) : EV c _ _ _ _ _ _ _ _ _).runI H4 fun t2=>?_
 obtain⟨bd,tb,hbd,hbv⟩ : ∃ (bd : Int) (tb : Tok),(bd=12∨bd=10 ^ 30)∧[Value.int 12 w1,.int (10 ^ (30 : Int).toNat) w2][((tot.fdiv 5).fmod 2).toNat]?=some (.int bd tb):=by
  rcases hm2 with e | e
  ·rw[e];exact⟨12,w1,.inl rfl,rfl⟩
  ·rw[e];exact⟨10 ^ 30,w2,.inr rfl,rfl⟩
 refine w_tailL (H4.at_ (as ++ [L + 5,L + 4,L + 3,L + 2,L + 1]).length _ _ (Ze rfl) (Ze (by simp[hl]))) (Int.fmod_nonneg_of_pos _ (by decide)) (by simp) hbv (Zd ⟨by rw[sizeLine_eq];simp,?_⟩)
 have H5:=H4.newT [.int (5 + tot.fmod 5) t1,.int bd tb]
 obtain⟨N,hN,hN5,hN9⟩ : ∃ N : Nat,5 + tot.fmod 5=N∧5≤N∧N≤9:=⟨(5 + tot.fmod 5).toNat,yn hm5⟩
 rw[hN] at H5 ⊢
 refine Ss hh H5 (.ld _ (Ze rfl) (Ze (by simp[hl]))) rfl fun h6 H6=>?_
 refine Yi (T5 (as.length + 3) (by rfl) (by rfl) (ap (ap (gA rfl) _) _) (ap (ap (gO rfl) _) _) H6 fun h7 H7=>?_)
 rw[Z6 (by simp;exact yr hl),Z6 (by simp;exact yr hl),U3 hl] at H7
 refine Yi (T5 (as.length + 2) (by rfl) (by rfl) (ap (ap (gA rfl) _) _) (ap (ap (gO rfl) _) _) H7 fun h8 H8=>Ud ?_)
 rw[Z6 (by simp;exact yr hl),Z6 (by simp;exact yr hl),U3 hl] at H8
 have H9 : Led c (callEnvC V1 L 887) (subB g h env ns vs as) lsRW [some (.int tot t),none,none,none,none,none,none] (as ++ [L + 5,L + 4,L + 3,L + 2,L + 1]) (os ++ [.ce none,.ce none,.ce (some (.int bd tb)),.ce (some (.int N t1)),.ce (some (.ref l))]) h8:=by
  have:=H8.take (as.length + 5)
  rwa [List.append_assoc (as ++ _),List.take_left' (by simp),List.append_assoc (os ++ _),List.take_left' (by simp[hl])] at this
 clear H8 H7 H6 H5 H4 H3 H2 H1
 refine Zz ?_
 refine (Sh (ns':=["k"]) (cl:=[("script",L + 1),("n",L + 2),("bound",L + 3)]) H9 ?_
  (U7 H9 (Zr (by rfl) Jv boot_range) (Uj ev_i (Mo (by rfl) (by rfl) (.ld (as.length + 3) (gA rfl) (gO rfl))) (IntMulOk.of_left (by decide))) (yd (2 * N)) (s9 (n:=2 * N) (yl hN9 (by decide : 18 < 19)) (by decide)) fun it h10 H10=>?_))
 ·exact⟨dk,by kernel_rfl,dk,by kernel_rfl,dk,dk,dk⟩
 refine LcC.all (subB g h env ns vs as) (fun o_ o_ v=>Ex1 fun m=>An3 (isS (ds m) v) (0≤m) (m < 10 ^ 30)) (fun o_ o_ o_ o_ o_ x=>x) (Zt _) rfl (J4 hh) trivial H10 (yl hN9 (by decide)) (fun i g' v h11 E acc l' hi st' fs' hI H11=>?_) fun g' l' h11 acc hl' hR st' fo' H11=>?_
 ·obtain⟨tv,rfl⟩:=hI
  refine Zl ?_
  intro QX
  refine H11.lvs ?_
  intro vl al ol H11
  have zs : At g'.hp l (.li svs):=z1.stay st'
  have bpos : 0 < bd∧bd≤10 ^ 30:=by rcases hbd with rfl | rfl <;> decide
  have hlen : svs.length < 100000:=by have:=Zu pk;exact q7 ‹_› ‹_› (by decide)
  have hlc : ∀ {x y : Sp},(as ++ [L + 5,L + 4,L + 3,L + 2,L + 1] ++ [it] ++ [acc]).length=(os ++ [Sp.ce none,.ce none,.ce (some (.int bd tb)),.ce (some (.int N t1)),.ce (some (.ref l))] ++ [x] ++ [y]).length:=fun {x y}=>by simp[hl]
  refine Zh (ev_strI (m:=(((0 + (i : Int)) + 1).fdiv 2 + (pickNums ks (some (0 + (i : Int))) none (some (2 * (N : Int)))).sum).fmod bd) (Q:=fun v h'=>isS (ds ((((0 + (i : Int)) + 1).fdiv 2 + (pickNums ks (some (0 + (i : Int))) none (some (2 * (N : Int)))).sum).fmod bd)) v∧Led c _ g' ["k"] [some (.int (0 + i) tv)] _ _ h') (X:=noX) H11 (Zr (by kernel_rfl) n_str PyProof.Rows.boot_str) (log_ok (Int.fmod_nonneg_of_pos _ bpos.1) (Int.lt_of_lt_of_le (Int.fmod_lt_of_pos _ bpos.1) bpos.2)) ?_) (fun v h' q=>⟨g',_,Zt _,rfl,q.2,_,q.1,Int.fmod_nonneg_of_pos _ bpos.1,Int.lt_of_lt_of_le (Int.fmod_lt_of_pos _ bpos.1) bpos.2⟩) fun o_ o_ q=>q
  refine w_bin (w_bin ((V7 (Ji (Zj 0 rfl rfl) ev_i) ev_i (by decide) (by decide) : EV c _ _ _ _ _ _ _ _ _).runI H11 fun ta=>?_))
  refine Xj H11 (Zr (by kernel_rfl) n_sum boot_sum) (Zi (Ts H11 (Xv (by kernel_rfl) (by rfl) (.ld (as.length + 4) (ap (ap (gA rfl) _) _) (ap (ap (gO rfl) _) _))) (.fz zs) hlen (ep_ev (Zj 0 rfl rfl)) Vf (ep_ev (Uj ev_i (Mo (by kernel_rfl) (by rfl) (.ld (as.length + 3) (ap (ap (gA rfl) _) _) (ap (ap (gO rfl) _) _))) (IntMulOk.of_left (by decide)))) (by simp;exact fun e=>absurd hN5 (by rw[e];decide)) fun r h12 H12=>Zd (c_sumL hh H12 (.ld _ (Ze rfl) (Ze hlc)) (pI.of (pk.ints.pick _ _ _)) fun t5 h13 H13 kk=>?_)))
  refine P.add_int (s:=stt c h13 kk) ⟨⟨rfl,rfl,rfl⟩,?_⟩
  have H14:=H13.init
  refine (Mo (by kernel_rfl) (by rfl) (.ld (as.length + 2) (ap (ap (gA rfl) _) _) (ap (ap (gO rfl) _) _)) : EV c _ _ _ _ _ _ _ _ _).runI H14 fun t6 kk=>?_
  exact mod_int' (s:=stt c h13 kk) (Int.ne_of_gt bpos.1) ⟨⟨rfl,rfl,rfl⟩,⟨_,rfl⟩,fun t7=>⟨⟨t7,rfl⟩,H14⟩⟩
 obtain⟨ms,pm,hms⟩:=picks (P:=fun m=>0≤m∧m < 10 ^ 30) fun i v q=>by obtain⟨m,a,b,d⟩:=hR i v q;exact⟨m,a,b,d⟩
 have hml : ms.length=2 * N:=(Zu pm).trans hl'
 refine Jh (as.length + 1) (by rfl) (by rfl) (ap (gA rfl) _) (ap (gO rfl) _) H11 fun h12 H12=>?_
 rw[Z6 (by simp;exact yr hl),U3 hl] at H12
 obtain⟨g2,k2,f2,H13,zc⟩:=H12.solid
 have H13' : Led c (callEnvC V1 L 887) g2 lsRW [some (.int tot t),none,none,none,none,none,none] (as ++ [L + 5,L + 4,L + 3,L + 2,L + 1]) (os ++ [.ce none,.ce (some (.ref acc)),.ce (some (.int bd tb)),.ce (some (.int N t1)),.ce (some (.ref l))]) h12:=H13
 clear H13
 have T1:=@rows_tl c (A.deeper (callEnvC V1 L 887)) g2 as os h12 L acc l tot bd t t1 tb N ms l' (hA'.mono (by decide)) hh hl hN5 hN9 hml hms H13' zc pm
 revert T1
 generalize (execs (List.drop 3 (fnB (st 33))) (callEnvC V1 L 887))=tx
 intro T1
 refine Zh T1 ?_ fun o_ o_ z=>z.elim
 rintro fl h14 ⟨ev,g5,tp,rw,rvs,tt,vs',O',e1,e2,k5,f5,H14,z5,z6,p5⟩
 obtain⟨H15,k15⟩:=H.leave H14 (fun b o e=>k5 _ _ (k2 _ _ (st' _ _ e))) (f5.trans (f2.trans fo'))
 have H16:=H15.take as.length
 rw[List.take_left' rfl,List.take_left' hl.symm] at H16
 exact⟨N,ev,ms,⟨g5.hp,g.fo⟩,tp,rw,rvs,tt,e1,hN5,hN9,hml,hms,k15,rfl,H16,z5,z6,p5⟩
theorem Tv {a b : Str}(h : a.cps.toList=b.cps.toList) : a=b:=by
 cases a;cases b;simp only[Str.mk.injEq];exact Array.toList_inj.mp h
theorem Y0 (a b : Str) : (a ++ b).cps.toList=a.cps.toList ++ b.cps.toList:=by
 rw[Str.cps_append,Array.toList_append]
noncomputable def ofL (l : List Nat) : Str:=⟨l.toArray⟩
theorem dg_n {n : Nat}(h : dig n=true) : 48≤n∧n≤57:=of_decide_eq_true h
theorem st97 {w : List Nat}{q : Bool}{e n : Nat}(hn : dig n=true) : step ⟨97,ofL w,q,e⟩ n=some (false,⟨97,ofL (w ++ [n]),q,e⟩):=by
 have:=dg_n hn
 unfold step
 rw[if_neg (show ¬ (97=32) by decide),if_neg (show ¬ (97=39) by decide),if_neg (show ¬ (97=34) by decide),if_neg (show ¬ (97=92) by decide),if_pos rfl,if_neg fun q=>q.elim (fun e=>absurd (e ▸ this.1) (by decide)) fun e=>absurd (e ▸ this.1) (by decide),if_neg fun q=>q.elim (fun e=>absurd (e ▸ this.1) (by decide)) fun e=>absurd (e ▸ this.1) (by decide),if_neg fun e=>absurd (e ▸ this.2) (by decide),if_pos hn]
 have : ofL w ++ ch n=ofL (w ++ [n]):=Tv (by rw[Y0];rfl)
 simp only[this]
theorem st32 {e n : Nat}(hn : dig n=true) : step ⟨32,Str.ofString "",false,e⟩ n=some (false,⟨97,ofL [n],false,e⟩):=by
 have:=dg_n hn
 unfold step
 rw[if_pos rfl,if_neg fun q=>q.elim (fun e=>absurd (e ▸ this.1) (by decide)) fun e=>absurd (e ▸ this.1) (by decide),if_pos hn];rfl
theorem run97 {rest : List Nat}{q : Bool}{e : Nat}{l w : List Nat}(h : ∀ n∈l,dig n=true) : Y9 (l ++ rest) ⟨97,ofL w,q,e⟩=Y9 rest ⟨97,ofL (w ++ l),q,e⟩:=by
 induction l generalizing w with
 | nil=>rw[List.append_nil];rfl
 | cons n l ih =>
  have hn:=h n (.head _)
  have:=dg_n hn
  rw[List.cons_append]
  conv=>lhs;unfold Y9
  rw[if_neg (by rintro⟨_,e,_⟩;exact absurd (e ▸ this.1) (by decide)),st97 hn]
  dsimp only
  rw[ih fun m hm=>h m (.tail _ hm),List.append_assoc];rfl
theorem run32 {rest l : List Nat}{e n : Nat}(h : ∀ m∈n :: l,dig m=true) : Y9 (n :: l ++ rest) ⟨32,Str.ofString "",false,e⟩=Y9 rest ⟨97,ofL (n :: l),false,e⟩:=by
 rw[List.cons_append]
 conv=>lhs;unfold Y9
 rw[if_neg (by rintro⟨e,_⟩;exact absurd (show 32=97 from e) (by decide)),st32 (h n (.head _))]
 dsimp only
 rw[run97 fun m hm=>h m (.tail _ hm)];rfl
theorem nz {n : Nat}{l : List Nat} : ((((ofL (n :: l)).length : Int) != 0) || false)=true:=by
 have : (ofL (n :: l)).length=l.length + 1:=by show (n :: l).toArray.size=_;simp
 rw[this];simp;lia
theorem runTab {rest l : List Nat}{e n : Nat}(h : ∀ m∈n :: l,dig m=true) : Y9 (n :: l ++ 9 :: rest) ⟨32,Str.ofString "",false,e⟩=some (rest,⟨32,ofL (n :: l),false,e⟩):=by
 rw[run32 h]
 conv=>lhs;unfold Y9
 rw[if_neg (by rintro⟨_,e,_⟩;contradiction)]
 have : step ⟨97,ofL (n :: l),false,e⟩ 9=some (true,⟨32,ofL (n :: l),false,e⟩):=by
  unfold step
  rw[if_neg (show ¬ (97=32) by decide),if_neg (show ¬ (97=39) by decide),if_neg (show ¬ (97=34) by decide),if_neg (show ¬ (97=92) by decide),if_pos rfl,if_pos (by decide),if_pos nz]
 rw[this]
theorem runCom {r l : List Nat}{e n : Nat}(hr : r≠[]) (h : ∀ m∈n :: l,dig m=true) : Y9 (n :: l ++ 35 :: r) ⟨32,Str.ofString "",false,e⟩=some ([],⟨32,ofL (n :: l),false,e⟩):=by
 rw[run32 h]
 conv=>lhs;unfold Y9
 rw[if_pos ⟨rfl,rfl,hr,nz⟩]
theorem w_0t (rest : List Nat) : Y9 ((Z4 true (Str.ofString "it's")).cps.toList ++ 32 :: rest) ⟨32,Str.ofString "",false,32⟩=some (rest,⟨32,Str.ofString "it's",true,97⟩):=by kernel_rfl
theorem w_0f (rest : List Nat) : Y9 ((Z4 false (Str.ofString "it's")).cps.toList ++ 32 :: rest) ⟨32,Str.ofString "",false,32⟩=some (rest,⟨32,Str.ofString "it's",true,32⟩):=by kernel_rfl
theorem w_1t (rest : List Nat) : Y9 ((Z4 true (Str.ofString "#")).cps.toList ++ 32 :: rest) ⟨32,Str.ofString "",false,32⟩=some (rest,⟨32,Str.ofString "#",true,32⟩):=by kernel_rfl
theorem w_1f (rest : List Nat) : Y9 ((Z4 false (Str.ofString "#")).cps.toList ++ 32 :: rest) ⟨32,Str.ofString "",false,32⟩=some (rest,⟨32,Str.ofString "#",true,32⟩):=by kernel_rfl
theorem w_2t (rest : List Nat) : Y9 ((Z4 true (Str.ofString "")).cps.toList ++ 32 :: rest) ⟨32,Str.ofString "",false,32⟩=some (rest,⟨32,Str.ofString "",true,32⟩):=by kernel_rfl
theorem w_2f (rest : List Nat) : Y9 ((Z4 false (Str.ofString "")).cps.toList ++ 32 :: rest) ⟨32,Str.ofString "",false,32⟩=some (rest,⟨32,Str.ofString "",true,32⟩):=by kernel_rfl
theorem w_3t (rest : List Nat) : Y9 ((Z4 true (Str.ofString "a b")).cps.toList ++ 32 :: rest) ⟨32,Str.ofString "",false,32⟩=some (rest,⟨32,Str.ofString "a b",true,32⟩):=by kernel_rfl
theorem w_3f (rest : List Nat) : Y9 ((Z4 false (Str.ofString "a b")).cps.toList ++ 32 :: rest) ⟨32,Str.ofString "",false,32⟩=some (rest,⟨32,Str.ofString "a b",true,32⟩):=by kernel_rfl
theorem w_4t (rest : List Nat) : Y9 ((Z4 true (Str.ofString "\\")).cps.toList ++ 32 :: rest) ⟨32,Str.ofString "",false,32⟩=some (rest,⟨32,Str.ofString "\\",true,32⟩):=by kernel_rfl
theorem w_4f (rest : List Nat) : Y9 ((Z4 false (Str.ofString "\\")).cps.toList ++ 32 :: rest) ⟨32,Str.ofString "",false,32⟩=some (rest,⟨32,Str.ofString "\\",true,34⟩):=by kernel_rfl
theorem w_5t (rest : List Nat) : Y9 ((Z4 true (Str.ofString "1")).cps.toList ++ 32 :: rest) ⟨32,Str.ofString "",false,32⟩=some (rest,⟨32,Str.ofString "1",true,32⟩):=by kernel_rfl
theorem w_5f (rest : List Nat) : Y9 ((Z4 false (Str.ofString "1")).cps.toList ++ 32 :: rest) ⟨32,Str.ofString "",false,32⟩=some (rest,⟨32,Str.ofString "1",true,32⟩):=by kernel_rfl
theorem w_6t (rest : List Nat) : Y9 ((Z4 true (Str.ofString "-")).cps.toList ++ 32 :: rest) ⟨32,Str.ofString "",false,32⟩=some (rest,⟨32,Str.ofString "-",true,32⟩):=by kernel_rfl
theorem w_6f (rest : List Nat) : Y9 ((Z4 false (Str.ofString "-")).cps.toList ++ 32 :: rest) ⟨32,Str.ofString "",false,32⟩=some (rest,⟨32,Str.ofString "-",true,32⟩):=by kernel_rfl
theorem w_7t (rest : List Nat) : Y9 ((Z4 true (Str.ofString "'")).cps.toList ++ 32 :: rest) ⟨32,Str.ofString "",false,32⟩=some (rest,⟨32,Str.ofString "'",true,97⟩):=by kernel_rfl
theorem w_7f (rest : List Nat) : Y9 ((Z4 false (Str.ofString "'")).cps.toList ++ 32 :: rest) ⟨32,Str.ofString "",false,32⟩=some (rest,⟨32,Str.ofString "'",true,32⟩):=by kernel_rfl
theorem w_8t (rest : List Nat) : Y9 ((Z4 true (Str.ofString "z")).cps.toList ++ 32 :: rest) ⟨32,Str.ofString "",false,32⟩=some (rest,⟨32,Str.ofString "z",true,32⟩):=by kernel_rfl
theorem w_8f (rest : List Nat) : Y9 ((Z4 false (Str.ofString "z")).cps.toList ++ 32 :: rest) ⟨32,Str.ofString "",false,32⟩=some (rest,⟨32,Str.ofString "z",true,32⟩):=by kernel_rfl
theorem ds_list' {m : Int}(h0 : 0≤m) : (ds m).cps.toList=(Nat.toDigits 10 m.toNat).map Char.toNat:=by
 obtain⟨k,rfl⟩:=Int.eq_ofNat_of_zero_le h0
 exact KIN.signs_num k
theorem Sm {m : Int}(h0 : 0≤m) : ∃ n l,(ds m).cps.toList=n :: l∧ds m=ofL (n :: l)∧∀ d∈n :: l,dig d=true:=by
 have hd : ∀ d∈(ds m).cps.toList,dig d=true:=fun d hd=>by
  rw[ds_list' h0] at hd
  obtain⟨ch,hch,rfl⟩:=Ng hd
  have r:=PyProof.Rows.digit_range (Nat.isDigit_of_mem_toDigits (by decide) (by decide) hch)
  exact decide_eq_true r
 cases e : (ds m).cps.toList with
 | nil =>
  rw[ds_list' h0] at e
  have h:=toDigits_len_ge 10 m.toNat
  rw[List.map_eq_nil_iff.mp e] at h
  exact absurd h (by decide)
 | cons n l=>exact⟨n,l,rfl,Tv (by rw[e];rfl),e ▸ hd⟩
theorem word_run (ev : Bool) : ∀ i,i < 9→∃ e,∀ rest,Y9 ((Z4 ev (nmL.getD i (Str.ofString ""))).cps.toList ++ 32 :: rest) ⟨32,Str.ofString "",false,32⟩=some (rest,⟨32,nmL.getD i (Str.ofString ""),true,e⟩):=by
 refine Nat.forall_lt_succ_right.mpr ⟨Nat.forall_lt_succ_right.mpr ⟨Nat.forall_lt_succ_right.mpr ⟨Nat.forall_lt_succ_right.mpr ⟨Nat.forall_lt_succ_right.mpr ⟨Nat.forall_lt_succ_right.mpr ⟨Nat.forall_lt_succ_right.mpr ⟨Nat.forall_lt_succ_right.mpr ⟨Nat.forall_lt_succ_right.mpr ⟨fun o_ h=>absurd h (Nat.not_lt_zero _),?_⟩,?_⟩,?_⟩,?_⟩,?_⟩,?_⟩,?_⟩,?_⟩,?_⟩ <;> cases ev
 ·exact⟨_,w_0f⟩
 ·exact⟨_,w_0t⟩
 ·exact⟨_,w_1f⟩
 ·exact⟨_,w_1t⟩
 ·exact⟨_,w_2f⟩
 ·exact⟨_,w_2t⟩
 ·exact⟨_,w_3f⟩
 ·exact⟨_,w_3t⟩
 ·exact⟨_,w_4f⟩
 ·exact⟨_,w_4t⟩
 ·exact⟨_,w_5f⟩
 ·exact⟨_,w_5t⟩
 ·exact⟨_,w_6f⟩
 ·exact⟨_,w_6t⟩
 ·exact⟨_,w_7f⟩
 ·exact⟨_,w_7t⟩
 ·exact⟨_,w_8f⟩
 ·exact⟨_,w_8t⟩
theorem line_toks {ev : Bool}{i : Nat}{a b : Int}(hi : i < 9) (ha : 0≤a) (hb : 0≤b) : Toks (Y3 ev [nmL.getD i (Str.ofString ""),ds a,ds b]).cps.toList [nmL.getD i (Str.ofString ""),ds a,ds b]:=by
 obtain⟨e,hw⟩:=word_run ev i hi
 obtain⟨n1,l1,e1,e1',d1⟩:=Sm ha
 obtain⟨n2,l2,e2,e2',d2⟩:=Sm hb
 have el : (Y3 ev [nmL.getD i (Str.ofString ""),ds a,ds b]).cps.toList=(Z4 ev (nmL.getD i (Str.ofString ""))).cps.toList ++ 32 :: (n1 :: l1 ++ 9 :: (n2 :: l2 ++ 35 :: [32,39,116,105,108,32,92])):=by
  show (Z4 ev (nmL.getD i (Str.ofString "")) ++ Str.ofString " " ++ ds a ++ Str.ofString "\t" ++ ds b ++ Str.ofString "# 'til \\").cps.toList=_
  rw[Y0,Y0,Y0,Y0,Y0,e1,e2,show (Str.ofString " ").cps.toList=[32] from dk,show (Str.ofString "\t").cps.toList=[9] from dk,show (Str.ofString "# 'til \\").cps.toList=[35,32,39,116,105,108,32,92] from dk]
  simp[List.append_assoc]
 rw[el]
 refine .cons (hw _) (by simp) ?_
 rw[e1',e2']
 exact .cons (runTab d1) nz (.cons (runCom (by simp) d2) nz .nil)
theorem p1 {i x : Nat}(h : i < x) (k : i≠x - 1) : i < x - 1:=Nat.lt_of_le_of_ne (Nat.le_pred_of_lt h) k
theorem p2 {i x : Nat}(h : i < x + 1) (k : i≠x) : i < x:=Nat.lt_of_le_of_ne (Nat.le_of_lt_succ h) k
theorem p3 {x : Nat}(h : 0 < x) : x - 1 < x:=Nat.sub_lt h Nat.one_pos
theorem m1 {b x j : Nat}(hb : b≤j) (hj : j < x) : b≤b + x - 1 - j∧b + x - 1 - j < x:=
 have e:=S7 (Nat.le_sub_one_of_lt hj) (Nat.sub_le_sub_right (Nat.le_add_left x b) 1)
 ⟨Nat.le_sub_of_add_le (Nat.le_sub_one_of_lt (Nat.add_lt_add_left hj b)),Nat.sub_lt_left_of_lt_add e (S6 (Nat.sub_lt (S6 (Nat.zero_lt_of_lt hj) (Nat.le_add_left x b)) Nat.one_pos) (Nat.add_le_add_right hb x))⟩
theorem m2 {b x i j : Nat}(h : i < j) (hj : j < x) : b + x - 1 - j < b + x - 1 - i:=
 Nat.sub_lt_sub_left (S6 h (S7 (Nat.le_sub_one_of_lt hj) (Nat.sub_le_sub_right (Nat.le_add_left x b) 1))) h
theorem d1 {l r : Nat}(h : ¬l ≥ r) : l≤(l + r) / 2∧(l + r) / 2 < r:=
 have h:=Nat.lt_of_not_le h
 ⟨(Nat.le_div_iff_mul_le Nat.two_pos).mpr (Nat.mul_two l ▸ Nat.add_le_add_left (Na h) l),(Nat.div_lt_iff_lt_mul Nat.two_pos).mpr (Nat.mul_two r ▸ Nat.add_lt_add_right h r)⟩
theorem d2 {l m r k x : Nat}(h : r - l≤k - x) (b : m < r) : m - l≤k - (x + 1):=
 S7 (Nat.sub_le_sub_right (Nat.le_sub_one_of_lt b) l) (S7 (S9 (Nat.sub_right_comm r 1 l)) (Nat.sub_le_sub_right h 1))
theorem d3 {l m r k x : Nat}(h : r - l≤k - x) (a : l≤m) : r - (m + 1)≤k - (x + 1):=
 Nat.sub_le_sub_right (S7 (Nat.sub_le_sub_left a r) h) 1
theorem no {a b : Nat}{p : Prop}(h : a < b) (k : b≤a) : p:=absurd h (Nat.not_lt_of_le k)
noncomputable def Jx (xs : Array Keyed) (i : Nat) : Int:=match xs[i]? with
 | some p=>numOf p.2
 | none=>0
theorem U8 {xs ys : Array Keyed}{i j : Nat}(h : xs[i]?=ys[j]?) : Jx xs i=Jx ys j:=by unfold Jx;rw[h]
noncomputable def LL (xs : Array Keyed) (i j : Nat) : Prop:=PyProof.Rows.K xs i < PyProof.Rows.K xs j∨(PyProof.Rows.K xs i=PyProof.Rows.K xs j∧Jx xs i < Jx xs j)
noncomputable def SS (xs : Array Keyed) (k : Nat) : Prop:=∀ i j,i < j→j < k→LL xs i j
noncomputable def DS (xs : Array Keyed) (k : Nat) : Prop:=∀ i j,i < j→j < k→LL xs j i
noncomputable def Asc (xs : Array Keyed) (k : Nat) : Prop:=∀ i j,i < j→k≤j→j < xs.size→Jx xs i < Jx xs j
theorem Asc.mono {xs : Array Keyed}{k m : Nat}(h : Asc xs k) (hk : k≤m) : Asc xs m:=fun i j a b d=>h i j a (by exact r6 ‹_› ‹_›) d
theorem Asc.perm {xs ys : Array Keyed}{k : Nat}(h : Asc xs k) (hs : ys.size=xs.size) (f : Nat→Nat) (hf : ∀ i,i < k→f i < k) (h1 : ∀ i,i < k→ys[i]?=xs[f i]?) (h2 : ∀ i,k≤i→ys[i]?=xs[i]?) : Asc ys k:=fun i j a b d=>by
 rw[U8 (h2 j b)]
 by_cases hi : i < k
 ·rw[U8 (h1 i hi)];exact h _ _ (S6 (hf i hi) b) b (hs ▸ d)
 ·rw[U8 (h2 i (Nat.le_of_not_lt hi))];exact h _ _ a b (hs ▸ d)
theorem Xn {xs ys : Array Keyed}{i j a b : Nat}(h1 : ys[i]?=xs[a]?) (h2 : ys[j]?=xs[b]?) (h : LL xs a b) : LL ys i j:=by
 unfold LL at *
 rw[K_congr h1,K_congr h2,U8 h1,U8 h2];exact h
theorem Xe {xs : Array Keyed}{i j : Nat}(hj : j≤xs.size) {k : Nat}(h : i≤k∧k < j) : (mirror xs i j ((j - i) / 2))[k]?=xs[i + j - 1 - k]?:=by
 rw[getElem?_mirror_all hj,if_pos h]
theorem Xw {xs : Array Keyed}{i j : Nat}(hj : j≤xs.size) {k : Nat}(h : ¬ (i≤k∧k < j)) : (mirror xs i j ((j - i) / 2))[k]?=xs[k]?:=by
 rw[getElem?_mirror_all hj,if_neg h]
theorem Asc.mirror {xs : Array Keyed}{i j k : Nat}(h : Asc xs k) (hj : j≤xs.size) (hk : j≤k) : Asc (mirror xs i j ((j - i) / 2)) k:=by
 refine h.perm (mirror_size _ _ _ _) (fun x=>if i≤x∧x < j then i + j - 1 - x else x) (fun x hx=>?_) (fun x hx=>?_) fun x hx=>Xw hj fun q=>no q.2 (S7 hk hx)
 ·show (if i≤x∧x < j then i + j - 1 - x else x) < k
  split
  ·rename_i q;exact S6 (m1 q.1 q.2).2 hk
  ·exact hx
 ·rw[getElem?_mirror_all hj];split <;> rfl
section
variable {prog : Program} {w : World} {E : Value → Shared → Prop} {s : Shared} {a₀ : Array Keyed}
theorem sz {st : SortSt}(hB : SBase a₀ st) : (arrOf st).size=a₀.size:=hB.size
theorem s_asc {st : SortSt}{a nrem : Nat}{Q : AscSt→SortSt→Prop}(h0 : IntKeys a₀) (hn : nrem≤a₀.size) (ha : 1≤a) (han : a≤nrem) (hB : SBase a₀ st) (hs : SS (arrOf st) a) (hc : Asc (arrOf st) a)
 (h : ∀ n,a≤n→n≤nrem→SS (arrOf st) n→(n=nrem∨PyProof.Rows.K (arrOf st) n < PyProof.Rows.K (arrOf st) (n - 1))→Q (none,n) st) : wpS (model prog w) A E s (ascLoop a nrem) Q st:=by
 unfold ascLoop
 refine wpS_forRange (I:=fun x c st'=>st'=st∧c=(none,x)∧SS (arrOf st) x) ?step ?fin ⟨rfl,rfl,hs⟩
 case fin =>
  rintro c st' ⟨rfl,rfl,hs'⟩
  rw[Nat.max_eq_right han] at hs' ⊢
  exact h nrem han (Nat.le_refl _) hs' (.inl rfl)
 case step =>
  rintro x c st' hax hxn ⟨rfl,rfl,hs'⟩
  dsimp only
  have hx0 : 0 < x:=S6 ha hax
  have hxa:=S6 hxn hn
  refine wpS_bind (wpS_ltK hB h0 hxa (S5 (Nat.sub_le _ _) hxa) ?_)
  by_cases hless : PyProof.Rows.K (arrOf st') x < PyProof.Rows.K (arrOf st') (x - 1)
  ·dsimp only;rw[if_pos (decide_eq_true hless)]
   exact wpS_pure (h x hax (Na hxn) hs' (.inr hless))
  ·dsimp only;rw[if_neg fun q=>hless (of_decide_eq_true q)]
   refine wpS_pure ⟨rfl,rfl,fun i j hij hj=>?_⟩
   by_cases hjx : j < x
   ·exact hs' i j hij hjx
   ·obtain rfl : j=x:=Nat.le_antisymm (Nat.le_of_lt_succ hj) (Nat.le_of_not_lt hjx)
    have e:=hc i j hij hax (hB.size ▸ hxa)
    have hless:=Int.not_lt.mp hless
    by_cases hi : i=j - 1
    ·subst hi;exact (Int.lt_or_eq_of_le hless).imp id fun q=>⟨q,e⟩
    ·rcases hs' i (j - 1) (p1 hij hi) (p3 hx0) with q | q
     ·exact .inl (Int.lt_of_lt_of_le q hless)
     ·exact (Int.lt_or_eq_of_le (q.1 ▸ hless)).imp id fun q=>⟨q,e⟩
theorem s_tail3 {st : SortSt}{n nrem : Nat}{Q : Option Nat→SortSt→Prop}(h0 : IntKeys a₀) (hn : nrem≤a₀.size) (h1 : 1≤n) (hnn : n≤nrem) (hB : SBase a₀ st) (hs : DS (arrOf st) n) (hc : Asc (arrOf st) n)
 (h : ∀ m st',SBase a₀ st'→1≤m→m≤nrem→SS (arrOf st') m→Asc (arrOf st') m→Q (some m) st') : wpS (model prog w) A E s (tail3 n nrem) Q st:=by
 unfold tail3
 have hsz : n≤(arrOf st).size:=by rw[hB.size];exact S7 hnn hn
 refine wpS_bind (wpS_reverse ?_)
 have hB' : SBase a₀ (setArr st (mirror (arrOf st) 0 n ((n - 0) / 2))):=hB.setArr (mirror_perm _ _ _ _)
 have hc' : Asc (mirror (arrOf st) 0 n ((n - 0) / 2)) n:=hc.mirror hsz (Nat.le_refl _)
 refine wpS_bind (s_asc h0 hn h1 hnn hB' ?_ hc' fun m hm1 hm2 hsm o_=>wpS_pure (h m _ hB' (S7 h1 hm1) hm2 hsm (hc'.mono hm1)))
 intro i j hij hj
 have hi:=S8 hij hj
 exact Xn (Xe hsz ⟨Nat.zero_le _,hi⟩) (Xe hsz ⟨Nat.zero_le _,hj⟩) (hs (0 + n - 1 - j) (0 + n - 1 - i) (m2 hij hj) (m1 (Nat.zero_le _) hi).2)
structure Blk (xs : Array Keyed) (b x : Nat) : Prop where
 lt : b < x
 d : ∀ i j,i < j→j < b→LL xs j i
 s : ∀ i j,i < b→b≤j→j < x→PyProof.Rows.K xs j < PyProof.Rows.K xs i
 e : ∀ i j,b≤i→i < j→j < x→PyProof.Rows.K xs i=PyProof.Rows.K xs j∧Jx xs i < Jx xs j
 c : Asc xs x
theorem Blk.one {xs : Array Keyed}{b x : Nat}(h : Blk xs b x) (hb : x=b + 1) : DS xs x:=fun i j hij hj=>by
 by_cases hjb : j < b
 ·exact h.d i j hij hjb
 ·exact .inl (h.s i j (S6 hij (Nat.le_of_lt_succ (Nat.lt_of_lt_of_eq hj hb))) (Nat.le_of_not_lt hjb) hj)
theorem Blk.turn {xs : Array Keyed}{b x : Nat}(h : Blk xs b x) (hx : x≤xs.size) : DS (mirror xs b x ((x - b) / 2)) x:=fun i j hij hj=>by
 by_cases hjb : j < b
 ·exact Xn (Xw hx fun q=>no hjb q.1) (Xw hx fun q=>no (S8 hij hjb) q.1) (h.d i j hij hjb)
 ·have hbj:=Nat.le_of_not_lt hjb
  have mj:=m1 hbj hj
  by_cases hib : i < b
  ·exact Xn (Xe hx ⟨hbj,hj⟩) (Xw hx fun q=>no hib q.1) (.inl (h.s i _ hib mj.1 mj.2))
  ·have hbi:=Nat.le_of_not_lt hib
   have hi:=S8 hij hj
   exact Xn (Xe hx ⟨hbj,hj⟩) (Xe hx ⟨hbi,hi⟩) (.inr (h.e _ _ mj.1 (m2 hij hj) (m1 hbi hi).2))
theorem Tu {xs : Array Keyed}{x : Nat}(h : DS xs x) (hc : Asc xs x) (hl : ∀ i,i < x→PyProof.Rows.K xs x < PyProof.Rows.K xs i) : Blk xs x (x + 1):=
 ⟨Nat.lt_succ_self _,h,fun i j hi hj hj'=>(show x=j from Nat.le_antisymm hj (Nat.le_of_lt_succ hj')) ▸ hl i hi,fun i j a b d=>absurd (S5 a b) (Nat.not_lt_of_le (Nat.le_of_lt_succ d)),hc.mono (Nat.le_succ x)⟩
theorem s_desc {st : SortSt}{n nrem : Nat}{Q : DescSt→SortSt→Prop}(h0 : IntKeys a₀) (hn : nrem≤a₀.size) (h1 : 1≤n) (hnn : n≤nrem) (hB : SBase a₀ st) (hb : Blk (arrOf st) (n - 1) n)
 (h : ∀ m neq st',SBase a₀ st'→n≤m→m≤nrem→neq + 1≤m→Blk (arrOf st') (m - (neq + 1)) m→Q (none,m,neq) st') : wpS (model prog w) A E s (descLoop n nrem) Q st:=by
 unfold descLoop
 refine wpS_forRange (I:=fun x c st'=>Ex1 fun neq=>An4 (c=(none,x,neq)) (SBase a₀ st') (neq + 1≤x) (Blk (arrOf st') (x - (neq + 1)) x)) ?step ?fin ⟨0,rfl,hB,by assumption,hb⟩
 case fin =>
  rintro c st' ⟨neq,rfl,hB',hq,hb'⟩
  rw[Nat.max_eq_right hnn] at hq hb' ⊢
  exact h nrem neq st' hB' hnn (Nat.le_refl _) hq hb'
 case step =>
  rintro x c st' hax hxn ⟨neq,rfl,hB',hq,hb'⟩
  dsimp only
  have hxa:=S6 hxn hn
  have hz:=hB'.size
  have hsz : x≤(arrOf st').size:=hz ▸ Na hxa
  have hx1:=p3 (S6 h1 hax)
  have hxb:=S8 hx1 hxa
  have hbx:=hb'.lt
  refine wpS_bind (wpS_ltK hB' h0 hxa hxb ?_)
  by_cases hless : PyProof.Rows.K (arrOf st') x < PyProof.Rows.K (arrOf st') (x - 1)
  ·dsimp only;rw[if_pos (decide_eq_true hless)]
   have hall : ∀ i,i < x→PyProof.Rows.K (arrOf st') x < PyProof.Rows.K (arrOf st') i:=fun i hi=>by
    by_cases hib : i < x - (neq + 1)
    ·exact Int.lt_trans hless (hb'.s i (x - 1) hib (Nat.le_pred_of_lt hbx) hx1)
    ·by_cases hi' : i=x - 1
     ·subst hi';exact hless
     ·exact (hb'.e i (x - 1) (Nat.le_of_not_lt hib) (p1 hi hi') hx1).1 ▸ hless
   by_cases hneq : neq > 0
   ·rw[if_pos hneq]
    have e1 : ∀ k,x≤k→(mirror (arrOf st') (x - (neq + 1)) x ((x - (x - (neq + 1))) / 2))[k]?=(arrOf st')[k]?:=fun k hk=>Xw hsz fun q=>no q.2 hk
    refine wpS_bind (wpS_reverse (wpS_pure ⟨0,rfl,hB'.setArr (mirror_perm _ _ _ _),Nat.le_add_left _ _,Tu (hb'.turn hsz) (hb'.c.mirror hsz (Nat.le_refl _)) fun i hi=>?_⟩))
    show PyProof.Rows.K (mirror _ _ _ _) x < PyProof.Rows.K (mirror _ _ _ _) i
    rw[K_congr (e1 x (Nat.le_refl _)),K_mirror hsz]
    split
    ·rename_i q;exact hall _ (m1 q.1 q.2).2
    ·exact hall _ hi
   ·rw[if_neg hneq]
    obtain rfl : neq=0:=Nat.eq_zero_of_not_pos hneq
    exact wpS_pure ⟨0,rfl,hB',Nat.le_add_left _ _,Tu (hb'.one (Nat.sub_add_cancel hq).symm) hb'.c hall⟩
  ·dsimp only;rw[if_neg fun q=>hless (of_decide_eq_true q)]
   refine wpS_bind (wpS_ltK hB' h0 hxb hxa ?_)
   by_cases hlarger : PyProof.Rows.K (arrOf st') (x - 1) < PyProof.Rows.K (arrOf st') x
   ·dsimp only;rw[if_pos (decide_eq_true hlarger)]
    exact wpS_pure (h x neq st' hB' hax (Na hxn) hq hb')
   ·dsimp only;rw[if_neg fun q=>hlarger (of_decide_eq_true q)]
    have heqx : PyProof.Rows.K (arrOf st') x=PyProof.Rows.K (arrOf st') (x - 1):=Int.le_antisymm (Int.not_lt.mp hlarger) (Int.not_lt.mp hless)
    refine wpS_pure ⟨neq + 1,rfl,hB',Nat.succ_le_succ hq,?_⟩
    rw[Nat.add_sub_add_right]
    refine⟨Nat.lt_succ_of_lt hbx,hb'.d,fun i j a b d=>?_,fun i j a b d=>?_,hb'.c.mono (Nat.le_succ x)⟩
    ·by_cases hj : j=x
     ·subst hj;rw[heqx];exact hb'.s i (j - 1) a (Nat.le_pred_of_lt hbx) hx1
     ·exact hb'.s i j a b (p2 d hj)
    ·by_cases hj : j=x
     ·subst hj
      refine⟨?_,hb'.c i j b (Nat.le_refl _) (hz ▸ hxa)⟩
      by_cases hi' : i=j - 1
      ·subst hi';exact heqx.symm
      ·rw[heqx];exact (hb'.e i (j - 1) a (p1 b hi') hx1).1
     ·exact hb'.e i j a b (p2 d hj)
theorem Sv {st : SortSt}{n nrem : Nat}{Q : Option Nat→SortSt→Prop}(h0 : IntKeys a₀) (hn : nrem≤a₀.size) (hnn : n + 1≤nrem) (hB : SBase a₀ st) (hb : Blk (arrOf st) n (n + 1))
 (h : ∀ m st',SBase a₀ st'→1≤m→m≤nrem→SS (arrOf st') m→Asc (arrOf st') m→Q (some m) st') : wpS (model prog w) A E s (descPart n nrem) Q st:=by
 unfold descPart
 refine wpS_bind (wpS_lift (wpAny_rule ⟨rfl,?_⟩))
 refine wpS_bind (s_desc h0 hn (Nat.le_add_left _ _) hnn hB hb fun m neq st' hB' hm1 hm2 hq hb'=>?_)
 dsimp only
 have hsz : m≤(arrOf st').size:=by rw[hB'.size];exact S7 hm2 hn
 have hm0:=S7 (Nat.le_add_left 1 n) hm1
 by_cases hneq : neq > 0
 ·rw[if_pos hneq]
  exact wpS_bind (wpS_reverse (s_tail3 h0 hn hm0 hm2 (hB'.setArr (mirror_perm _ _ _ _)) (hb'.turn hsz) (hb'.c.mirror hsz (Nat.le_refl _)) h))
 ·rw[if_neg hneq]
  obtain rfl : neq=0:=Nat.eq_zero_of_not_pos hneq
  exact s_tail3 h0 hn hm0 hm2 hB' (hb'.one (Nat.sub_add_cancel hq).symm) hb'.c h
theorem s_count {st : SortSt}{nrem : Nat}{Q : Option Nat→SortSt→Prop}(h0 : IntKeys a₀) (hn : nrem≤a₀.size) (h1 : 1≤nrem) (hB : SBase a₀ st) (hc : Asc (arrOf st) 0)
 (h : ∀ m st',SBase a₀ st'→1≤m→m≤nrem→SS (arrOf st') m→Asc (arrOf st') m→Q (some m) st') : wpS (model prog w) A E s (countRun' 0 nrem) Q st:=by
 rw[countRun0_eq]
 refine wpS_bind (s_asc h0 hn (Nat.le_refl 1) h1 hB (fun i j hij hj=>no (Nat.zero_lt_of_lt hij) (Nat.le_of_lt_succ hj)) (hc.mono (by decide)) fun n hn1 hn2 hsn hor=>?_)
 dsimp only
 have hz:=hB.size
 by_cases hnn : n=nrem
 ·rw[if_pos (by simpa using hnn)]
  exact wpS_pure (h n st hB hn1 hn2 hsn (hc.mono (Nat.zero_le _)))
 ·rw[if_neg (by simpa using hnn)]
  have hlt : PyProof.Rows.K (arrOf st) n < PyProof.Rows.K (arrOf st) (n - 1):=hor.resolve_left hnn
  by_cases hgt : n > 1
  ·rw[if_pos hgt]
   have hna:=S6 (p3 hn1) (S7 hn2 hn)
   refine wpS_bind (wpS_ltK hB h0 (Nat.zero_lt_of_lt hna) hna ?_)
   by_cases hrose : PyProof.Rows.K (arrOf st) 0 < PyProof.Rows.K (arrOf st) (n - 1)
   ·dsimp only;rw[if_pos (decide_eq_true hrose)]
    exact wpS_pure (h n st hB hn1 hn2 hsn (hc.mono (Nat.zero_le _)))
   ·dsimp only;rw[if_neg fun q=>hrose (of_decide_eq_true q)]
    have hsz : n≤(arrOf st).size:=hz ▸ S7 hn2 hn
    have hrose:=Int.not_lt.mp hrose
    have hall : ∀ k,k < n→PyProof.Rows.K (arrOf st) k=PyProof.Rows.K (arrOf st) (n - 1):=by
     intro k hk
     have le : ∀ {i j},i≤j→j < n→PyProof.Rows.K (arrOf st) i≤PyProof.Rows.K (arrOf st) j:=fun {i j} a b=>by
      rcases Nat.eq_or_lt_of_le a with e | e
      ·rw[e];exact Int.le_refl _
      ·rcases hsn i j e b with q | q
       ·exact Int.le_of_lt q
       ·exact Int.le_of_eq q.1
     exact Int.le_antisymm (le (Nat.le_pred_of_lt hk) (p3 hn1)) (Nb hrose (le (Nat.zero_le _) hk))
    refine wpS_bind (wpS_reverse (Sv h0 hn (Nat.lt_of_le_of_ne hn2 hnn) (hB.setArr (mirror_perm _ _ _ _)) (Tu (fun i j hij hj=>?_) ((hc.mono (Nat.zero_le _)).mirror hsz (Nat.le_refl _)) fun i hi=>?_) h))
    ·have hi:=S8 hij hj
     have mi:=(m1 (Nat.zero_le i) hi).2
     refine Xn (Xe hsz ⟨Nat.zero_le _,hj⟩) (Xe hsz ⟨Nat.zero_le _,hi⟩) (.inr ⟨?_,hc _ _ (m2 hij hj) (Nat.zero_le _) (S6 mi hsz)⟩)
     rw[hall _ (m1 (Nat.zero_le j) hj).2,hall (0 + n - 1 - i) mi]
    ·show PyProof.Rows.K (mirror _ _ _ _) n < PyProof.Rows.K (mirror _ _ _ _) i
     rw[K_congr (Xw hsz (k:=n) fun q=>Nat.lt_irrefl _ q.2),K_congr (Xe hsz (k:=i) ⟨Nat.zero_le _,hi⟩),hall (0 + n - 1 - i) (m1 (Nat.zero_le i) hi).2]
     exact hlt
  ·rw[if_neg hgt]
   obtain rfl : 1=n:=Nat.le_antisymm hn1 (Nat.le_of_not_lt hgt)
   have hb : Blk (arrOf st) 1 (1 + 1):=by
    refine Tu (fun i j hij hj=>no (Nat.zero_lt_of_lt hij) (Nat.le_of_lt_succ hj)) (hc.mono (by decide)) fun i hi=>?_
    obtain rfl:=Nat.lt_one_iff.mp hi
    exact hlt
   exact Sv h0 hn (Nat.lt_of_le_of_ne hn2 hnn) hB hb h
theorem s_binary {st : SortSt}{n ok : Nat}{Q : Bool→SortSt→Prop}(h0 : IntKeys a₀) (hn : n≤a₀.size) (hok : ok≤n) (hok1 : 1≤ok) (hB : SBase a₀ st) (hs : SS (arrOf st) ok) (hc : Asc (arrOf st) ok)
 (h : ∀ st',SBase a₀ st'→SS (arrOf st') n→Q true st') : wpS (model prog w) A E s (binarySort' 0 n ok) Q st:=by
 rw[binarySort'_eq]
 simp only[Nat.zero_add]
 refine wpS_bind (wpS_mono (wpS_forRange (I:=fun k c st'=>An4 (c=(none,())) (SBase a₀ st') (SS (arrOf st') (min k n)) (Asc (arrOf st') k))
  (Q:=fun c st'=>An3 (c=(none,())) (SBase a₀ st') (SS (arrOf st') n)) ?step ?fin ?init) ?post)
 case post =>
  rintro c st' ⟨rfl,hB',hs'⟩
  exact wpS_pure (h st' hB' hs')
 case init =>
  rw[Nat.max_eq_left hok1]
  exact⟨rfl,hB,by rw[Nat.min_eq_left hok];exact hs,hc⟩
 case fin =>
  rintro c st' ⟨hc,hB',hs',o_⟩
  refine⟨hc,hB',?_⟩
  rwa [Nat.min_eq_right (Nat.le_max_right _ _)] at hs'
 case step =>
  rintro k c st' hak hkn ⟨rfl,hB',hs',hc'⟩
  rw[Nat.min_eq_left (Na hkn)] at hs'
  have hk:=S6 hkn hn
  have hz:=hB'.size
  have mono : ∀ i j,i≤j→j < k→PyProof.Rows.K (arrOf st') i≤PyProof.Rows.K (arrOf st') j:=fun i j a b=>by
   rcases Nat.eq_or_lt_of_le a with e | e
   ·rw[e];exact Int.le_refl _
   ·rcases hs' i j e b with q | q
    ·exact Int.le_of_lt q
    ·exact Int.le_of_eq q.1
  refine wpS_bind (wpS_mono (wpS_forRange (I:=fun x c st''=>An2 (st''=st') (Ex2 fun l r=>An6 (c=(none,l,r)) (l≤r) (r≤k) (r - l≤k - x)
   (∀ i,i < l→PyProof.Rows.K (arrOf st') i≤PyProof.Rows.K (arrOf st') k) (∀ i,r≤i→i < k→PyProof.Rows.K (arrOf st') k < PyProof.Rows.K (arrOf st') i)))
   (Q:=fun c st''=>An2 (st''=st') (Ex2 fun l r=>An4 (c=(none,l,r)) (l≤k)
    (∀ i,i < l→PyProof.Rows.K (arrOf st') i≤PyProof.Rows.K (arrOf st') k) (∀ i,l≤i→i < k→PyProof.Rows.K (arrOf st') k < PyProof.Rows.K (arrOf st') i))) ?istep ?ifin ?iinit) ?ipost)
  case iinit=>exact⟨rfl,0,k,rfl,Nat.zero_le _,Nat.le_refl _,Nat.le_refl _,fun i hi=>no hi (Nat.zero_le _),fun i h1 h2=>no h2 h1⟩
  case ifin =>
   rintro c st'' ⟨rfl,l,r,rfl,hlr,hrk,hm,hlo,hhi⟩
   obtain rfl : l=r:=Nat.le_antisymm hlr (Nat.le_of_sub_eq_zero (Nat.le_zero.mp (S7 hm (S9 (Nat.sub_eq_zero_of_le (Nat.le_max_right _ _))))))
   exact⟨rfl,l,l,rfl,hrk,hlo,hhi⟩
  case istep =>
   rintro x c st'' o_ hxk ⟨rfl,l,r,rfl,hlr,hrk,hm,hlo,hhi⟩
   dsimp only
   by_cases hge : l ≥ r
   ·rw[if_pos hge]
    obtain rfl:=Nat.le_antisymm hlr hge
    exact wpS_pure ⟨rfl,l,l,rfl,hrk,hlo,hhi⟩
   ·rw[if_neg hge]
    have hd:=d1 hge
    have hmk:=S6 hd.2 hrk
    refine wpS_bind (wpS_ltK hB' h0 hk (S8 hmk hk) ?_)
    by_cases hless : PyProof.Rows.K (arrOf st'') k < PyProof.Rows.K (arrOf st'') ((l + r) / 2)
    ·dsimp only;rw[if_pos (decide_eq_true hless)]
     refine wpS_pure ⟨rfl,l,(l + r) / 2,rfl,hd.1,Na hmk,d2 hm hd.2,hlo,fun i h1 h2=>?_⟩
     exact Int.lt_of_lt_of_le hless (mono _ _ h1 h2)
    ·dsimp only;rw[if_neg fun q=>hless (of_decide_eq_true q)]
     refine wpS_pure ⟨rfl,(l + r) / 2 + 1,r,rfl,hd.2,hrk,d3 hm hd.1,fun i h1=>?_,hhi⟩
     exact Nb (mono i ((l + r) / 2) (Nat.le_of_lt_succ h1) hmk) (Int.not_lt.mp hless)
  case ipost =>
   rintro c st'' ⟨rfl,l,r,rfl,hlk,hlo,hhi⟩
   show wpS _ _ _ _ (do moveDown' k l;pure (ForInStep.yield (none,()))) _ _
   rw[moveDown'_eq]
   have hks : k < (arrOf st'').size:=by rw[hz];exact hk
   have hg:=getElem?_bubble hks (k - l) (Nat.sub_le _ _)
   rw[Nat.sub_sub_self hlk] at hg
   refine wpS_bind (wpS_modify (wpS_pure ⟨rfl,hB'.setArr (bubble_perm _ _ _),?_,?_⟩))
   ·rw[Nat.min_eq_left hkn]
    intro i j hij hj
    have gi:=hg i
    have gj:=hg j
    have cc : ∀ i,i < k→Jx (arrOf st'') i < Jx (arrOf st'') k:=fun i hi=>hc' i k hi (Nat.le_refl _) hks
    have hjk:=Nat.le_of_lt_succ hj
    by_cases c1 : i=l
    ·subst c1
     rw[if_pos rfl] at gi
     rw[if_neg (Nat.ne_of_gt hij),if_pos ⟨hij,hjk⟩] at gj
     have hj1:=p3 (Nat.zero_lt_of_lt hij)
     exact Xn gi gj (.inl (hhi _ (Nat.le_pred_of_lt hij) (S6 hj1 hjk)))
    ·rw[if_neg c1] at gi
     by_cases c2 : l < i∧i≤k
     ·rw[if_pos c2] at gi
      have hlj:=S8 c2.1 hij
      rw[if_neg (Nat.ne_of_gt hlj),if_pos ⟨hlj,hjk⟩] at gj
      exact Xn gi gj (hs' _ _ (Nat.pred_lt_pred (Nat.ne_of_gt (Nat.zero_lt_of_lt c2.1)) hij) (S6 (p3 (Nat.zero_lt_of_lt hij)) hjk))
     ·rw[if_neg c2] at gi
      have hik:=S6 hij hjk
      have hil : i < l:=Nat.lt_of_le_of_ne (Nat.le_of_not_lt fun q=>c2 ⟨q,Na hik⟩) c1
      by_cases c3 : j=l
      ·rw[if_pos c3] at gj
       exact Xn gi gj ((Int.lt_or_eq_of_le (hlo i hil)).imp id fun q=>⟨q,cc i hik⟩)
      ·rw[if_neg c3] at gj
       by_cases c4 : l < j∧j≤k
       ·rw[if_pos c4] at gj
        exact Xn gi gj (hs' _ _ (S6 hil (Nat.le_pred_of_lt c4.1)) (S6 (p3 (Nat.zero_lt_of_lt hij)) hjk))
       ·rw[if_neg c4] at gj
        exact Xn gi gj (hs' _ _ hij (S6 (Nat.lt_of_le_of_ne (Nat.le_of_not_lt fun q=>c4 ⟨q,hjk⟩) c3) hlk))
   ·refine (hc'.mono (Nat.le_succ k)).perm (bubble_size _ _ _) (fun x=>if x=l then k else if l < x∧x≤k then x - 1 else x) (fun x hx=>?_) (fun x hx=>?_) fun x hx=>?_
    ·have : (if x=l then k else if l < x∧x≤k then x - 1 else x) < k + 1:=by
      repeat' split
      ·exact Nat.lt_succ_self _
      ·exact S5 (Nat.sub_le _ _) hx
      ·exact hx
     exact this
    ·show (bubble _ _ _)[x]?=_
     rw[hg];repeat' split
     all_goals rfl
    ·show (bubble _ _ _)[x]?=_
     rw[hg,if_neg (Nat.ne_of_gt (S5 hlk hx)),if_neg fun q=>no hx q.2]
noncomputable def SDn (a₀ : Array Keyed) (st : SortSt) : Prop:=(arrOf st).Perm a₀∧failedOf st=none∧pendingOf st=#[(0,a₀.size,0)]∧SS (arrOf st) a₀.size
theorem sdn {st : SortSt}(hB : SBase a₀ st) (hs : SS (arrOf st) a₀.size) : SDn a₀ (setPending st ((pendingOf st).push (0,a₀.size,0))):=
 ⟨hB.perm,hB.failed,by show (pendingOf st).push _=_;rw[hB.pend];rfl,hs⟩
theorem s_runs {st : SortSt}{Q : Unit→SortSt→Prop}(h0 : IntKeys a₀) (hB : SBase a₀ st) (hc : Asc (arrOf st) 0) (h2 : 2≤a₀.size) (h64 : a₀.size < 64)
 (h : ∀ st',(arrOf st').Perm a₀→failedOf st'=none→SS (arrOf st') a₀.size→Q () st') : wpS (model prog w) A E s sortRuns' Q st:=by
 rw[sortRuns'_eq]
 refine wpS_bind (wpS_get ?_)
 dsimp only
 have hmr : minRun' a₀.size a₀.size 0=a₀.size:=by
  obtain⟨f,hf⟩ : ∃ f,a₀.size=f + 1:=⟨a₀.size - 1,(Nat.sub_add_cancel (Nat.le_of_succ_le h2)).symm⟩
  have : minRun' (f + 1) a₀.size 0=a₀.size:=by rw[minRun'_succ,if_pos h64];rfl
  rwa [← hf] at this
 rw[hB.size,hmr]
 refine wpS_bind (wpS_mono (wpS_forRange
  (I:=fun x c st'=>(x=0∧c=(none,0)∧SBase a₀ st'∧Asc (arrOf st') 0)∨(1≤x∧c=(none,a₀.size)∧SDn a₀ st'))
  (Q:=fun c st'=>c=(none,a₀.size)∧SDn a₀ st') ?step ?fin (.inl ⟨rfl,rfl,hB,hc⟩)) ?post)
 case fin =>
  rintro c st' (⟨hx,o_,o_⟩ | ⟨o_,hc,hD⟩)
  ·exact (Nat.ne_of_gt (S6 (Nat.zero_lt_of_lt h2) (Nat.le_max_right _ _)) hx).elim
  ·exact⟨hc,hD⟩
 case step =>
  rintro x c st' o_ hx (⟨rfl,rfl,hB',hc'⟩ | ⟨hx1,rfl,hD⟩)
  ·dsimp only
   rw[if_neg (by lia)]
   rw[Nat.sub_zero,Nat.min_self]
   refine wpS_bind (s_count h0 (Nat.le_refl _) (by assumption) hB' hc' fun m st2 hB2 hm1 hm2 hs2 hc2=>?_)
   dsimp only
   by_cases hlt : m < a₀.size
   ·rw[if_pos hlt]
    refine wpS_bind (wpS_lift (wpAny_rule ⟨rfl,?_⟩))
    refine wpS_bind (s_binary h0 (Nat.le_refl _) hm2 hm1 hB2 hs2 hc2 fun st3 hB3 hs3=>?_)
    rw[if_neg (by decide)]
    refine wpS_bind (wpS_get ?_)
    have hb : (pendingOf st3).back?=none:=by rw[hB3.pend];rfl
    rw[hb]
    dsimp only
    exact wpS_bind (wpS_modify (wpS_pure (.inr ⟨by decide,by rw[Nat.zero_add],sdn hB3 hs3⟩)))
   ·rw[if_neg hlt]
    have hm : m=a₀.size:=by lia
    subst hm
    refine wpS_bind (wpS_get ?_)
    have hb : (pendingOf st2).back?=none:=by rw[hB2.pend];rfl
    rw[hb]
    dsimp only
    exact wpS_bind (wpS_modify (wpS_pure (.inr ⟨by decide,by rw[Nat.zero_add],sdn hB2 hs2⟩)))
  ·dsimp only
   rw[if_pos (Nat.le_refl _)]
   exact wpS_pure ⟨rfl,hD⟩
 case post =>
  rintro c st' ⟨rfl,hD⟩
  dsimp only
  refine wpS_bind (wpS_mono (wpS_forRange (I:=fun o_ c st''=>st''=st'∧c=(none,())) (Q:=fun c st''=>st''=st'∧c=(none,())) ?_ (fun o_ o_ hh=>hh) ⟨rfl,rfl⟩) ?_)
  ·rintro x c st'' o_ o_ ⟨rfl,rfl⟩
   refine wpS_bind (wpS_get ?_)
   rw[if_pos (by rw[hD.2.2.1];exact Nat.le_refl 1)]
   exact wpS_pure ⟨rfl,rfl⟩
  ·rintro c st'' ⟨rfl,rfl⟩
   exact wpS_pure (h _ hD.1 hD.2.1 hD.2.2.2)
end
noncomputable def KB (h h' : Heap) (X : List Addr) : Prop:=∀ b o,b ∉ X→h.get? b=some o→h'.get? b=some o
noncomputable def Tz (kz : List Int) (vs out : List Value) : Prop:=
 ∃ ps : List (Int × Value),ps.Perm (kz.zip vs)∧out=ps.map Prod.snd∧ps.Pairwise (fun p q=>p.1 < q.1∨(p.1=q.1∧numOf p.2 < numOf q.2))
theorem st_out {keys : Array Value}{vs : List Value}{kz : List Int}(hk : IntsAre keys.toList kz) {xs : Array Keyed}(hp : xs.Perm (keys.zip vs.toArray)) (hs : SS xs xs.size) : Tz kz vs (xs.map (·.2)).toList:=by
 have hl : xs.toList.Perm (keys.toList.zip vs):=by rw[← ksk_zip];exact Array.perm_iff_toList_perm.mp hp
 refine⟨xs.toList.map (fun p : Keyed=>(numOf p.1,p.2)),?_,?_,?_⟩
 ·have e2 : (keys.toList.zip vs).map (fun p : Keyed=>(numOf p.1,p.2))=kz.zip vs:=by
   rw[← hk.nums,List.zip_map_left]
   exact List.map_congr_left fun ⟨x,y⟩ o_=>rfl
  rw[← e2];exact hl.map _
 ·rw[Array.toList_map,List.map_map];rfl
 ·rw[List.pairwise_iff_getElem]
  intro i j hi hj hij
  have hi' : i < xs.size:=by simpa using hi
  have hj' : j < xs.size:=by simpa using hj
  have q:=hs i j hij hj'
  have J1 : Jx xs i=numOf xs[i].2:=by unfold Jx;rw[getElem?_pos xs i hi']
  have J2 : Jx xs j=numOf xs[j].2:=by unfold Jx;rw[getElem?_pos xs j hj']
  unfold LL at q
  rw[K_eq hi',K_eq hj',J1,J2] at q
  simpa using q
theorem upd_seq {h : Heap}{a : Addr}{xs : Array Value}{n : Nat}(e : h.get? a=some (seqObj "list" xs n)) (f : Array Value→Array Value) : ∃ c,(h.update a (Obj.mapSeq f)).get? a=some (seqObj "list" (f xs) c):=⟨_,get?_update_seq e f⟩
section
variable {prog : Program} {w : World} {A : Around} {E : Value → Shared → Prop} {s : Shared} {a kS : Addr} {vs : List Value} {kz : List Int} {keys : Array Value} {e e1 : Nat} {P : PySem.Fin → Shared → Prop}
theorem sk_tail {st : SortSt}(nk : s.heap.get? kS=some (seqObj "list" keys e)) (na : s.heap.get? a=some (seqObj "list" #[] e1)) (hka : kS≠a) (hk : IntsAre keys.toList kz) (hlen : kz.length=vs.length) (h64 : vs.length < 64)
 (hp : (arrOf st).Perm (keys.zip vs.toArray)) (hs : SS (arrOf st) (arrOf st).size) (hfl : failedOf st=none)
 (h : ∀ h' tk out c,KB s.heap h' [kS,a]→h'.get? a=some (seqObj "list" out c)→Tz kz vs out.toList→P (.done (.ret .none)) { s with heap:=h',toks:=tk }) :
 wpAny (model prog w) A (ksk_tail a false e1 (.ref kS) st) P E s:=by
 have hsz : keys.size=vs.length:=by have h1:=hk.length;rw[Array.length_toList] at h1;exact h1.trans hlen
 have hsz2 : (arrOf st).size=vs.length:=by rw[hp.size_eq,Array.size_zip,hsz,List.size_toArray,Nat.min_self]
 have s1:=Heap.SameBut.update s.heap kS (Obj.mapSeq fun o_=>(#[] : Array Value))
 have na1 : (s.heap.update kS (Obj.mapSeq fun o_=>(#[] : Array Value))).get? a=some (seqObj "list" #[] e1):=(s1.2 a hka.symm).trans na
 have s2:=Heap.SameBut.update (s.heap.update kS (Obj.mapSeq fun o_=>(#[] : Array Value))) a (Obj.mapSeq fun o_=>(arrOf st).map (·.2))
 obtain⟨c2,hc2⟩:=upd_seq na1 fun o_=>(arrOf st).map (·.2)
 unfold ksk_tail
 try dsimp only
 refine wpAny_bind (listUpdate_at nk rfl ?_ (by rw[hsz,sizeLine_eq];exact q3 ‹_› (by decide)) (Nat.zero_le _))
 refine wpAny_bind (wpAny_letGo ?_)
 refine wpAny_bind (seqEpoch_at na1 rfl ?_)
 simp only[Bool.false_eq_true,if_false]
 refine wpAny_bind (listUpdate_at na1 rfl ?_ (Nat.zero_le _) (by rw[Array.size_map,hsz2,sizeLine_eq];exact q3 ‹_› (by decide)))
 rw[hfl]
 simp only[bne_self_eq_false,Bool.false_eq_true,if_false]
 refine wpAny_pure (h _ _ _ c2 (fun b o hb q=>?_) hc2 (st_out hk hp hs))
 have hb1 : b≠kS:=fun q=>hb (by rw[q];exact .head _)
 have hb2 : b≠a:=fun q=>hb (by rw[q];exact .tail _ (.head _))
 exact (s2.2 b hb2).trans ((s1.2 b hb1).trans q)
theorem asc_of {keys : Array Value}{vs : List Value}{ms : List Int}(hv : IntsAre vs ms) (hlen : keys.size=vs.length) (hm : ms.Pairwise (· < ·)) : Asc (keys.zip vs.toArray) 0:=fun i j hij o_ hj=>by
 have hz : (keys.zip vs.toArray).size=vs.length:=by rw[Array.size_zip,hlen,List.size_toArray,Nat.min_self]
 have J : ∀ k,(hk : k < vs.length)→Jx (keys.zip vs.toArray) k=ms[k]'(by rw[← hv.length];exact hk):=fun k hk=>by
  unfold Jx
  have e1 : (keys.zip vs.toArray)[k]?=some (keys[k]'(by exact q9 ‹_› ‹_›),vs[k]):=by
   rw[getElem?_pos _ k (by exact q9 ‹_› ‹_›)];simp
  obtain⟨t,ht⟩:=hv.get k (ms[k]'(by rw[← hv.length];exact hk)) (by simp)
  rw[Nc hk] at ht
  rw[e1,Option.some.inj ht];rfl
 have hi:=S8 hij (r1 hj hz)
 rw[J i hi,J j (by exact r1 ‹_› ‹_›)]
 exact List.pairwise_iff_getElem.mp hm i j (by rw[← hv.length];exact hi) (by rw[← hv.length];exact r1 ‹_› ‹_›) hij
theorem sk_end {ms : List Int}(nk : s.heap.get? kS=some (seqObj "list" keys e)) (na : s.heap.get? a=some (seqObj "list" #[] e1)) (hka : kS≠a) (hk : IntsAre keys.toList kz) (hlen : kz.length=vs.length) (h64 : vs.length < 64) (hv : IntsAre vs ms) (hm : ms.Pairwise (· < ·)) (h2 : 2≤vs.length)
 (h : ∀ h' tk out c,KB s.heap h' [kS,a]→h'.get? a=some (seqObj "list" out c)→Tz kz vs out.toList→P (.done (.ret .none)) { s with heap:=h',toks:=tk }) :
 wpAny (model prog w) A (ksk_end a false vs.toArray e1 (.ref kS) keys) P E s:=by
 have hsz : keys.size=vs.length:=by have h1:=hk.length;rw[Array.length_toList] at h1;exact h1.trans hlen
 have hzs : (keys.zip vs.toArray).size=vs.length:=by rw[Array.size_zip,hsz,List.size_toArray,Nat.min_self]
 unfold ksk_end
 try dsimp only
 simp only[Bool.false_eq_true,if_false]
 rw[if_neg (by rw[List.size_toArray];lia),if_neg (by rw[List.size_toArray];lia),ksk_kind hk (by rw[hsz];assumption)]
 refine wpAny_bind (wpAny_pure ?_)
 refine wpAny_bind (wpAny_mono (s_runs (a₀:=keys.zip vs.toArray) (st:=SortSt.mk' oneType' (keys.zip vs.toArray) #[] 7 none)
  (Q:=fun o_ st'=>(arrOf st').Perm (keys.zip vs.toArray)∧failedOf st'=none∧SS (arrOf st') (keys.zip vs.toArray).size)
  (ksk_intKeys hk) ⟨.refl _,rfl,rfl,rfl⟩ (asc_of hv hsz hm) (by rw[hzs];assumption) (by rw[hzs];exact h64) fun st' a1 a2 a3=>⟨a1,a2,a3⟩) ?_ fun o_ o_ e=>e)
 rintro⟨⟨⟩,st'⟩ s' ⟨rfl,hp,hf,hs⟩
 try dsimp only
 exact sk_tail nk na hka hk hlen h64 hp (by rw[hp.size_eq];exact hs) hf h
noncomputable def KeyP (s : Shared) (h : Heap) (k : Int) (v : Value) (s2 : Shared) : Prop:=∃ h' tk t',s2={ s with heap:=h',toks:=tk }∧v=.int k t'∧∀ b o,h.get? b=some o→h'.get? b=some o
theorem sk_rest {f : Value}{ms : List Int}(nk : s.heap.get? kS=some (seqObj "list" #[] 0)) (na : s.heap.get? a=some (seqObj "list" #[] e1)) (hka : kS≠a) (hlen : kz.length=vs.length) (h64 : vs.length < 64) (hv : IntsAre vs ms) (hm : ms.Pairwise (· < ·)) (h2 : 2≤vs.length)
 (turn : ∀ (i : Nat) (v : Value) (k : Int),vs[i]?=some v→kz[i]?=some k→∀ (h : Heap) (tk : Nat),KB s.heap h [kS,a]→wpAny (model prog w) A (call f [v]) (KeyP s h k) (fun o_ o_=>False) { s with heap:=h,toks:=tk })
 (h : ∀ h' tk out c,KB s.heap h' [kS,a]→h'.get? a=some (seqObj "list" out c)→Tz kz vs out.toList→P (.done (.ret .none)) { s with heap:=h',toks:=tk }) :
 wpAny (model prog w) A (ksk_rest a f false vs.toArray e1 (.ref kS)) P E s:=by
 unfold ksk_rest
 refine wpAny_bind (wpAny_rule ?_)
 first
  | rw[List.forIn_toArray]
  | (rw[← Array.forIn_toList];simp only[List.toList_toArray])
  | rw[← Array.forIn_toList]
 refine wpAny_bind (ksk_fold (fun i s'=>Ex4 fun h' tk kA e=>An5 (s'={ s with heap:=h',toks:=tk }) (KB s.heap h' [kS,a]) (h'.get? kS=some (seqObj "list" kA e)) (h'.get? a=some (seqObj "list" #[] e1)) (IntsAre kA.toList (kz.take i))) vs 0 s
  ⟨s.heap,s.toks,#[],0,rfl,fun o_ o_ o_ e=>e,nk,na,by simpa using IntsAre.nil⟩ ?step ?done)
 case step =>
  rintro j x s' hx ⟨h',tk,kA,e,rfl,kb,nk',na',hk⟩
  simp only[Nat.zero_add] at hk ⊢
  have hj : j < vs.length:=(Nf hx).1
  obtain⟨k,hkj⟩ : ∃ k,kz[j]?=some k:=⟨_,Nc (by exact q9 ‹_› ‹_›)⟩
  have hz : kA.size≤vs.length:=by
   have h1:=hk.length
   rw[Array.length_toList,List.length_take] at h1
   exact h1 ▸ S7 (Nat.min_le_right ..) (S9 hlen)
  refine wpAny_bind (wpAny_attempt (wpAny_mono (turn j x k hx hkj h' tk kb) (fun v s'' he=>?_) fun o_ o_ hF=>hF.elim))
  obtain⟨g,tk2,t2,rfl,rfl,kk⟩:=he
  try dsimp only
  have nk2:=kk _ _ nk'
  have na2:=kk _ _ na'
  have s1:=Heap.SameBut.update g kS (Obj.mapSeq (·.push (.int k t2)))
  obtain⟨c2,hc2⟩ : ∃ c2,(g.update kS (Obj.mapSeq (·.push (.int k t2)))).get? kS=some (seqObj "list" (kA.push (.int k t2)) c2):=⟨_,get?_update_seq nk2 (·.push (.int k t2))⟩
  have ek : kz.take (j + 1)=kz.take j ++ [k]:=by rw[List.take_add_one,hkj];simp
  have ea : (kA.push (Value.int k t2)).toList=kA.toList ++ [Value.int k t2]:=by simp
  refine wpAny_bind (listUpdate_at nk2 rfl ?_ (by rw[sizeLine_eq];exact S7 hz (Na (S8 h64 (by decide)))) (S7 (S9 (Array.size_push ..)) (by rw[sizeLine_eq];exact S7 (Nat.succ_le_succ hz) (S7 h64 (by decide)))))
  refine wpAny_pure ⟨rfl,_,_,kA.push (.int k t2),c2,rfl,fun b o hb q=>?_,hc2,(s1.2 a hka.symm).trans na2,by rw[ea,ek];exact ksk_snoc hk⟩
  have hb1 : b≠kS:=fun q=>hb (by rw[q];exact .head _)
  exact (s1.2 b hb1).trans (kk _ _ (kb b o hb q))
 case done =>
  rintro s' ⟨h',tk,kA,e,rfl,kb,nk',na',hk⟩
  have hk' : IntsAre kA.toList kz:=by
   have e3 : kz.take (0 + vs.length)=kz:=List.take_of_length_le (by rw[Nat.zero_add];exact S9 hlen)
   rw[e3] at hk
   exact hk
  try dsimp only
  refine wpAny_bind (listItems_at nk' rfl ?_)
  exact sk_end nk' na' hka hk' hlen h64 hv hm h2 fun h3 tk3 out c k3 g3 o3=>h h3 tk3 out c (fun b o hb q=>k3 b o hb (kb b o hb q)) g3 o3
theorem sk_sort {f : Value}{n : Nat}{ms : List Int}(ho : s.heap.get? a=some (seqObj "list" vs.toArray n)) (hlen : kz.length=vs.length) (h64 : vs.length < 64) (hv : IntsAre vs ms) (hm : ms.Pairwise (· < ·)) (h2 : 2≤vs.length)
 (turn : ∀ (i : Nat) (v : Value) (k : Int),vs[i]?=some v→kz[i]?=some k→∀ (h : Heap) (tk : Nat),KB s.heap h [a]→wpAny (model prog w) A (call f [v]) (KeyP s h k) (fun o_ o_=>False) { s with heap:=h,toks:=tk })
 (h : ∀ h' tk out c,KB s.heap h' [a]→h'.get? a=some (seqObj "list" out c)→Tz kz vs out.toList→P (.done (.ret .none)) { s with heap:=h',toks:=tk }) :
 wpAny (model prog w) A (ksk_tree a f false) P E s:=by
 have ha : a < s.heap.objs.size:=Heap.lt_size ho
 have s1:=Heap.SameBut.update s.heap a (Obj.mapSeq fun o_=>(#[] : Array Value))
 obtain⟨e1,ho1⟩ : ∃ e1,(s.heap.update a (Obj.mapSeq fun o_=>(#[] : Array Value))).get? a=some (seqObj "list" #[] e1):=⟨_,get?_update_seq ho fun o_=>#[]⟩
 have hkS : ((s.heap.update a (Obj.mapSeq fun o_=>(#[] : Array Value))).push (seqObj "tuple" vs.toArray 0)).objs.size=s.heap.objs.size + 1:=by rw[size_push',Heap.size_update]
 unfold ksk_tree
 refine wpAny_bind (listItems_at ho rfl ?_)
 refine wpAny_bind (listUpdate_at ho rfl ?_ (by rw[List.size_toArray,sizeLine_eq];exact q3 ‹_› (by decide)) (Nat.zero_le _))
 refine wpAny_bind (seqEpoch_at ho1 rfl ?_)
 refine wpAny_bind (wpAny_newTuple ?_ (by show vs.length≤_;rw[sizeLine_eq];exact q3 ‹_› (by decide)))
 refine wpAny_bind (wpAny_newList ?_ (Nat.zero_le _))
 refine wpAny_holding ?_
 have kb0 : ∀ {h' : Heap},KB (((s.heap.update a (Obj.mapSeq fun o_=>(#[] : Array Value))).push (seqObj "tuple" vs.toArray 0)).push (seqObj "list" #[] 0)) h' [((s.heap.update a (Obj.mapSeq fun o_=>(#[] : Array Value))).push (seqObj "tuple" vs.toArray 0)).objs.size,a]→KB s.heap h' [a]:=fun kb b o hb q=>by
  have hlt : b < s.heap.objs.size:=Heap.lt_size q
  have hb1 : b≠a:=fun q=>hb (by rw[q];exact .head _)
  refine kb b o (fun q=>?_) (Heap.get?_push_of_some _ (Heap.get?_push_of_some _ ((s1.2 b hb1).trans q)))
  rcases List.mem_cons.mp q with q | q
  ·rw[hkS] at q;rw[q] at hlt;exact absurd (Nat.lt_of_succ_lt hlt) (Nat.lt_irrefl _)
  ·exact hb1 (List.mem_singleton.mp q)
 refine sk_rest (s:={ s with heap:=((s.heap.update a (Obj.mapSeq fun o_=>(#[] : Array Value))).push (seqObj "tuple" vs.toArray 0)).push (seqObj "list" #[] 0) }) (kS:=((s.heap.update a (Obj.mapSeq fun o_=>(#[] : Array Value))).push (seqObj "tuple" vs.toArray 0)).objs.size)
  (Heap.get?_push_size _ rfl) (Heap.get?_push_of_some _ (Heap.get?_push_of_some _ ho1)) (by rw[hkS];exact Nat.ne_of_gt (Nat.lt_succ_of_lt ha)) hlen h64 hv hm h2 (fun i v k a1 a2 h tk kb=>turn i v k a1 a2 h tk (kb0 kb)) fun h' tk out c kb g o=>h h' tk out c (kb0 kb) g o
end
section
variable {prog : Program} {w : World} {E : Value → Shared → Prop} {s : Shared}
theorem iadd_range {r S : Addr}{a b c : Int}{t u v : Tok}{n : Nat}{R : Result→Shared→Prop}(hh : A.handled=none) (hr : IsRange s.heap r a b c t u v) (hsmall : Builtin.Range.small a b c=true) (hn : Builtin.Range.rangeSize a b c=n) (hlen : n≤2 ^ 24) (hS : s.heap.get? S=some (seqObj "list" #[] 0))
 (h : ∀ h' tk acc' c',(∀ b o,b≠S→s.heap.get? b=some o→h'.get? b=some o)→h'.get? S=some { cls:=.type "list",dict:=none,data:=.seq acc' c',slots:=#[] }→ItemsOf (fun i v=>∃ t,v=.int (a + i * c) t) acc' n→R (.ok (.ret (.ref S))) { s with heap:=h',toks:=tk }) :
 codeAny (model prog w) A (.builtin "list.__iadd__" ⟨[.ref S,.ref r],[]⟩) R s:=
 codeAny_builtin entry_list_iadd' (wpAny_extend_range hh hr hsmall hn hlen S (.ref S) 0 hS h)
theorem collect_range {r : Addr}{a b c : Int}{t u v : Tok}{n : Nat}{Q : List Value→Shared→Prop}(hh : A.handled=none) (hr : IsRange s.heap r a b c t u v) (hsmall : Builtin.Range.small a b c=true) (hn : Builtin.Range.rangeSize a b c=n) (hlen : n≤2 ^ 24)
 (h : ∀ (vs : List Value) h' tk,(∀ b o,s.heap.get? b=some o→h'.get? b=some o)→vs.length=n→(∀ (i : Nat) (v : Value),vs[i]?=some v→∃ t,v=.int (a + (i : Int) * c) t)→Q vs { s with heap:=h',toks:=tk }) :
 wpAny (model prog w) A (collect (.ref r)) Q E s:=by
 unfold collect
 refine wpAny_bind (wpAny_runValue (codeAny_builtin entry_proto_collect' ?_))
 show wpAny _ _ (do again (.builtin "list.__iadd__" ⟨[← newList [],.ref r],[]⟩)) _ _ s
 refine wpAny_bind (wpAny_newList (wpAny_pure ⟨Code.quiet_builtin _ (by decide +kernel),iadd_range (s:={ s with heap:=s.heap.push (seqObj "list" #[] 0) }) hh (Heap.get?_push_of_some _ hr) hsmall hn hlen (Heap.get?_push_size _ rfl) fun h' tk acc' c' hk hS hI=>?_⟩))
 show wpAny (model prog w) A (do
  let o ← load s.heap.objs.size
  match o.data with
  | .seq xs _=>pure xs.toList
  | _=>unsupported "internal:collect") Q E { s with heap:=h',toks:=tk }
 refine wpAny_bind (wpAny_load hS ?_)
 refine wpAny_pure (h _ _ _ (fun b o e=>hk b o (Nat.ne_of_lt (Heap.lt_size e)) (Heap.get?_push_of_some _ e)) (by rw[Array.length_toList];exact hI.1) fun i v e=>hI.2 i v (by rw[← Array.getElem?_toList];exact e))
theorem pi_of {vs : List Value}{ns : List Int}(hl : vs.length=ns.length) (h : ∀ (i : Nat) v,vs[i]?=some v→∃ t,v=.int (ns[i]?.getD 0) t) : IntsAre vs ns:=by
 induction vs generalizing ns with
 | nil=>cases ns with
  | nil=>exact .nil
  | cons n ns=>cases hl
 | cons v vs ih=>cases ns with
  | nil=>cases hl
  | cons n ns =>
   obtain⟨t,e⟩:=h 0 v rfl
   have e : v=.int n t:=e
   subst e
   exact .cons n t (ih (Nat.succ.inj hl) fun i v e=>h (i + 1) v e)
theorem sk_sorted {r q : Addr}{b : Int}{t u v : Tok}{n : Nat}{kz : List Int}{Q : Value→Shared→Prop}(hh : A.handled=none) (hr : IsRange s.heap r 0 b 1 t u v) (hsmall : Builtin.Range.small 0 b 1=true) (hn : Builtin.Range.rangeSize 0 b 1=n) (h2 : 2≤n) (h64 : n < 64) (hlen : kz.length=n)
 (turn : ∀ (i : Nat) (t : Tok) (k : Int),kz[i]?=some k→∀ (h : Heap) (tk : Nat),(∀ b o,s.heap.get? b=some o→h.get? b=some o)→wpAny (model prog w) A.in1.in1 (call (.ref q) [.int i t]) (KeyP s h k) (fun o_ o_=>False) { s with heap:=h,toks:=tk })
 (h : ∀ D h' tk vs out c,(∀ b o,s.heap.get? b=some o→h'.get? b=some o)→h'.get? D=some (seqObj "list" out c)→s.heap.get? D=none→IntsAre vs ((List.range n).map fun i : Nat=>(i : Int))→Tz kz vs out.toList→Q (.ref D) { s with heap:=h',toks:=tk }) :
 wpAny (model prog w) A (call (.builtin "sorted") [.ref r] [(Str.ofString "key",.ref q)]) Q E s:=by
 refine call_function_entry_kw kind_sorted plain_sorted entry_sorted (ksk_s1 _ _) ?_
 unfold Builtin.«sorted»
 refine wpAny_bind (m:=checkCount "sorted" 1 1 _) (wpAny_pure ?_)
 refine wpAny_bind (collect_range (A:=A.in1) hh hr hsmall hn (by exact q3 ‹_› (by decide)) fun vs h1 tk1 k1 hl hI=>?_)
 refine wpAny_bind (wpAny_newList ?_ (by rw[sizeLine_eq];lia))
 have hoL:=Heap.get?_push_size h1 (o:=seqObj "list" vs.toArray 0) rfl
 have hv : IntsAre vs ((List.range n).map fun i : Nat=>(i : Int)):=by
  refine (pi_of (by simp[hl]) fun i x e=>?_)
  obtain⟨t,rfl⟩:=hI i x e
  have hi : i < n:=by have:=(Nf e).1;exact r1 ‹_› ‹_›
  exact⟨t,by rw[List.getElem?_map,List.getElem?_range hi];show Value.int _ t=.int (i : Int) t;congr 1;lia⟩
 refine wpAny_bind (wpAny_holding (wpAny_call_entry_kw slot_list_sort ⟨_,hoL,rfl⟩ entry_list_sort ?body (ksk_l1 _ _)))
 case body =>
  show wpAny (model prog w) A.in1.in1 (Builtin.«list.sort» ⟨[.ref h1.objs.size],[(Str.ofString "key",.ref q)]⟩) _ _ _
  rw[ksk_t1]
  have kx : ∀ {h' : Heap},KB (h1.push (seqObj "list" vs.toArray 0)) h' [h1.objs.size]→∀ b o,s.heap.get? b=some o→h'.get? b=some o:=fun kb b o e =>
   kb b o (fun q=>by rw[List.mem_singleton] at q;exact absurd (Heap.lt_size (k1 b o e)) (by rw[q];exact Nat.lt_irrefl _)) (Heap.get?_push_of_some _ (k1 b o e))
  refine sk_sort (kz:=kz) (s:={ s with heap:=h1.push (seqObj "list" vs.toArray 0),toks:=tk1 }) hoL (by lia) (by exact r2 ‹_› ‹_›) hv ?_ (by exact q9 ‹_› ‹_›) (fun i v k e1 e2 h tk kb=>?_) fun h' tk out c kb g o=>⟨_,rfl,?_⟩
  ·rw[List.pairwise_map]
   exact List.pairwise_lt_range.imp fun hh=>by with_reducible exact Int.ofNat_lt.mpr ‹_›
  ·obtain⟨t,rfl⟩:=hI i v e1
   rw[show (0 : Int) + (i : Int) * 1=i by lia]
   exact turn i t k e2 h tk (kx kb)
  ·exact wpAny_pure ⟨_,rfl,h _ _ _ vs _ c (kx kb) g (by
    cases q : s.heap.get? h1.objs.size with
    | none=>rfl
    | some o=>exact absurd (Heap.lt_size (k1 _ _ q)) (Nat.lt_irrefl _)) hv o⟩
end
section
open PySem.Builtin.Str
theorem cut_eq {c : Nat}{a b r t : List Nat}(ha : c ∉ a) (hb : c ∉ b) (h : a ++ c :: r=b ++ c :: t) : a=b∧r=t:=by
 induction a generalizing b with
 | nil=>cases b with
  | nil=>exact⟨rfl,(List.cons.inj h).2⟩
  | cons y b=>exact absurd (.head _) ((List.cons.inj h).1 ▸ hb)
 | cons x a ih=>cases b with
  | nil=>exact absurd (.head _) ((List.cons.inj h).1 ▸ ha)
  | cons y b =>
   obtain⟨h1,h2⟩:=List.cons.inj h
   obtain⟨h3,h4⟩:=ih (fun q=>ha (.tail _ q)) (fun q=>hb (.tail _ q)) h2
   exact⟨by rw[h1,h3],h4⟩
theorem join_list {c : Nat}(x y : Str) (l : List Str) : (Str.join ⟨#[c]⟩ (x :: y :: l)).cps.toList=x.cps.toList ++ c :: (Str.join ⟨#[c]⟩ (y :: l)).cps.toList:=by
 show (x ++ ⟨#[c]⟩ ++ Str.join ⟨#[c]⟩ (y :: l)).cps.toList=_
 rw[Y0,Y0];simp
theorem join_inj {c : Nat} : ∀ {a b : List Str},(∀ x∈a,c ∉ x.cps.toList)→(∀ x∈b,c ∉ x.cps.toList)→a≠[]→b≠[]→Str.join ⟨#[c]⟩ a=Str.join ⟨#[c]⟩ b→a=b
 | [],_,_,_,h,_,_=>absurd rfl h
 | _,[],_,_,_,h,_=>absurd rfl h
 | [x],[y],_,_,_,_,h=>by rw[show x=y from h]
 | [x],y :: z :: b,ha,_,_,_,h=>by
  have h : x=Str.join ⟨#[c]⟩ (y :: z :: b):=h
  refine absurd ?_ (ha x (.head _))
  rw[h,join_list];simp
 | x :: z :: a,[y],_,hb,_,_,h=>by
  have h : Str.join ⟨#[c]⟩ (x :: z :: a)=y:=h
  refine absurd ?_ (hb y (.head _))
  rw[← h,join_list];simp
 | x :: x' :: a,y :: y' :: b,ha,hb,_,_,h=>by
  have h:=congrArg (fun s=>s.cps.toList) h
  simp only[join_list] at h
  obtain⟨h1,h2⟩:=cut_eq (ha x (.head _)) (hb y (.head _)) h
  rw[Tv h1,join_inj (a:=x' :: a) (b:=y' :: b) (fun x hx=>ha x (.tail _ hx)) (fun x hx=>hb x (.tail _ hx)) (by simp) (by simp) (Tv h2)]
theorem split_lines {l : List Str}(hl : ∀ x∈l,10 ∉ x.cps.toList) (hne : l≠[]) : Txt.split (Txt.join (Str.ofString "\n") l) (Str.ofString "\n")=l:=by
 have e : Str.ofString "\n"=⟨#[10]⟩:=dk
 rw[e]
 have h1:=StrLaws.join_split (Txt.join ⟨#[10]⟩ l) ⟨#[10]⟩
 have h2:=StrLaws.split_free (Txt.join ⟨#[10]⟩ l) 10
 refine join_inj h2 hl (fun q=>?_) hne (h1.trans (StrLaws.glued_eq_join _ _))
 have:=split_pos (Txt.join ⟨#[10]⟩ l) ⟨#[10]⟩
 rw[q] at this;exact absurd this (by decide)
theorem ds_int {m : Int}(h0 : 0≤m) (h1 : m < 10 ^ 30) : PySem.intText? (ds m)=some m∧(ds m).length≤640:=by
 have hl:=T6 h0 h1
 refine⟨?_,by exact q4 ‹_› (by decide)⟩
 obtain⟨n,l,e,o_,hd⟩:=Sm h0
 have hall : NumText.AllDigits (ds m).cps.toList:=by rw[e];exact fun c hc=>dg_n (hd c hc)
 have:=intText_digits hall (by rw[e];simp) (by exact q4 ‹_› (by decide))
 rw[ds_list h0,KIN.val_back] at this
 rw[this];congr 1;exact Int.toNat_of_nonneg ‹_›
theorem Led.born (H : Led c env g ns vs as os h) {h' : Heap}{D : Addr}{sp : Sp}(hk : ∀ b o,h.get? b=some o→h'.get? b=some o) (hD : h.get? D=none) (x : At h' D sp) : Led c env g ns vs (as ++ [D]) (os ++ [sp]) h':=by
 refine (H.grow hk).add x (fun q=>?_) (fun q=>?_) (fun q=>?_) ?_
 ·obtain⟨i,hi,e⟩:=List.mem_iff_getElem.mp q
  obtain⟨o,e2,o_⟩:=H.at_ i D (os[i]'(by rw[← H.len];exact hi)) (by rw[Nc hi,e]) (Nc _)
  rw[hD] at e2;cases e2
 ·obtain⟨o,es,ep,e,o_⟩:=H.fr.ns
  rw[← q,hD] at e;cases e
 ·obtain⟨p,hp,e⟩:=Ng q
  obtain⟨o,es,ep,e2,o_⟩:=H.fo p hp
  rw[e,hD] at e2;cases e2
 ·cases q : g.hp.get? D with
  | none=>rfl
  | some o=>rw[H.keep _ _ q] at hD;cases hD
theorem w_rangeO {f : Str}{fp pos : Pos}{e2 : Expr}{b : Int}{Q : Value→Heap→Prop}(H : Led c env g ns vs as os h) (hf : EV c A env (.Name f fp) g ns vs as os (·=.type "range")) (x2 : EV c A env e2 g ns vs as os (isI b))
 (k : ∀ r t u v h',Led c env g ns vs as os h'→IsRange h' r 0 b 1 t u v→Q (.ref r) h')
 (he2 : autoParam (starEach [e2] env=(false,eval e2 env) :: starEach [] env) zR) : W c A (eval (.Call (.Name f fp) [e2] [] pos) env) Q X h:=by
 refine Xo H hf (Y7 H x2 (fun u=>Zd fun kk=>?_) he2) he2 rfl
 exact call_range_1 (s:=stt c h kk) ⟨⟨rfl,rfl,rfl⟩,k _ _ _ _ _ (H.push _) (IsRange.new h 0 b 1 kk u (kk + 1))⟩
noncomputable abbrev Ju (n : Nat) : List Int:=(List.range n).map fun i : Nat=>(i : Int)
theorem rs_one {n : Nat} : Builtin.Range.rangeSize 0 (n : Int) 1=n:=by rw[rangeSize_one];split <;> (first | exact rfl | lia)
theorem c_listR {r : Addr}{n : Nat}{t u v : Tok}{Q : Value→Heap→Prop}(hh : A.handled=none) (H : Led c env g ns vs as os h) (hr : IsRange h r 0 (n : Int) 1 t u v) (hn : n < 1000)
 (k : ∀ D us h',pI (Ju n) us→Led c env g ns vs (as ++ [D]) (os ++ [.li us]) h'→Q (.ref D) h') : W c A (call (.type "list") [.ref r]) Q X h:=fun kk=>by
 refine call_list_range (s:=stt c h kk) (n:=n) hh hr (small_one (by decide) (by decide) (by lia) (by exact s9 ‹_› (by decide))) rs_one (by exact q3 ‹_› (by decide)) fun h' tk acc c' hk hS hI=>⟨⟨rfl,rfl,rfl⟩,k _ acc.toList h' (pI.of ?_) (H.born hk (Heap.get?_none_of_le (Nat.le_refl _)) ⟨_,hS,c',rfl⟩)⟩
 refine pi_of (by rw[Array.length_toList,hI.1];simp) fun i v e=>?_
 obtain⟨t,rfl⟩:=hI.2 i v (by rw[← Array.getElem?_toList];exact e)
 have hi : i < n:=by have:=(Nf e).1;rw[Array.length_toList,hI.1] at this;exact this
 exact⟨t,by rw[List.getElem?_map,List.getElem?_range hi];show Value.int _ t=.int (i : Int) t;congr 1;lia⟩
theorem c_sorted {l : Addr}{ms : List Int}{us : List Value}{Q : Value→Heap→Prop}(H : Led c env g ns vs as os h) (z : Loc g as os l (.li us)) (p : pI ms us) (hn : ms.length < 64)
 (k : ∀ D ms' us' h',pI ms' us'→ms'.Perm ms→ms'.Pairwise (·≤·)→Led c env g ns vs (as ++ [D]) (os ++ [.li us']) h'→Q (.ref D) h') : W c A (call (.builtin "sorted") [.ref l]) Q X h:=fun kk=>by
 have hl:=Zu p
 refine sorted_ints (s:=stt c h kk) (H.get z).isList p.ints (by exact r3 ‹_› ‹_›) fun out ms' h1 h2 h3=>⟨⟨rfl,rfl,rfl⟩,?_⟩
 obtain⟨e,he⟩:=sortedAll_at h us out
 exact k _ ms' out.toList _ (pI.of h1) h2 h3 (H.born (fun b o q=>sortedAll_old q) (Heap.get?_none_of_le (Nat.le_succ _)) ⟨_,he,e,rfl⟩)
theorem c_neI {a b : Addr}{n1 n2 : List Int}{u1 u2 : List Value}{Q : Value→Heap→Prop}(hA : Rm A 0) (H : Led c env g ns vs as os h) (za : Loc g as os a (.li u1)) (zb : Loc g as os b (.li u2)) (p1 : pI n1 u1) (p2 : pI n2 u2) (q : Q (.bool (!decide (n1=n2))) h) : W c A (compareOp .NotEq (.ref a) (.ref b)) Q X h:=fun kk =>
 ke_ne_ints (s:=stt c h kk) (H.get za).isList (H.get zb).isList p1.ints p2.ints (S8 (Nat.add_lt_add_right (ye hA.2) 64) (by decide)) ⟨⟨rfl,rfl,rfl⟩,q⟩
theorem c_eqI {a b : Addr}{n1 n2 : List Int}{u1 u2 : List Value}{Q : Value→Heap→Prop}(hA : Rm A 0) (H : Led c env g ns vs as os h) (za : Loc g as os a (.li u1)) (zb : Loc g as os b (.li u2)) (p1 : pI n1 u1) (p2 : pI n2 u2) (q : Q (.bool (decide (n1=n2))) h) : W c A (compareOp .Eq (.ref a) (.ref b)) Q X h:=fun kk =>
 ke_eq_ints (s:=stt c h kk) (H.get za).isList (H.get zb).isList p1.ints p2.ints (S8 (Nat.add_lt_add_right (ye hA.2) 64) (by decide)) ⟨⟨rfl,rfl,rfl⟩,q⟩
noncomputable abbrev rowD (rs : List (List Str)) : PyData:=.list (rs.map fun r=>.list (r.map PyData.str))
theorem reads_strs {h : Heap}{r : List Str}{us : List Value}(p : Paired (fun w v=>isS w v) r us) : ReadsAll h us (r.map PyData.str) []:=by
 induction p with
 | nil=>exact .nil
 | cons x _ ih=>obtain⟨t,e⟩:=x;subst e;exact .cons (as:=[]) (.str _ t) ih
theorem Sl {h : Heap}{rs : List (List Str)}{us : List Value}(p : Paired (X0 h) rs us) : ∃ bs,ReadsAll h us (rs.map fun r=>.list (r.map PyData.str)) bs:=by
 induction p with
 | nil=>exact⟨_,.nil⟩
 | cons x _ ih =>
  obtain⟨a,ws,e,⟨o,e2,n,e3⟩,q⟩:=x
  subst e;subst e3
  obtain⟨bs,ih⟩:=ih
  exact⟨_,.cons (.list e2 rfl rfl (by simpa using reads_strs q)) ih⟩
theorem eqv_strs : ∀ r : List Str,PyData.eqvAll (r.map PyData.str) (r.map PyData.str)=true
 | []=>rfl
 | x :: r=>by simp[PyData.eqvAll,PyData.eqv,eqv_strs r]
theorem eqv_rows : ∀ rs : List (List Str),PyData.eqvAll (rs.map fun r=>.list (r.map PyData.str)) (rs.map fun r=>.list (r.map PyData.str))=true
 | []=>rfl
 | x :: r=>by simp[PyData.eqvAll,PyData.eqv,eqv_rows r,eqv_strs]
theorem lay_strs : ∀ r : List Str,(∀ x∈r,PyData.strOk x=true)→PyData.canLayAll0 (r.map PyData.str)=true∧PyData.depthAll (r.map PyData.str)=0
 | [],_=>⟨rfl,rfl⟩
 | x :: r,h=>by
  obtain⟨h1,h2⟩:=lay_strs r fun y hy=>h y (.tail _ hy)
  simp[PyData.canLayAll0,PyData.canLay0,PyData.depthAll,PyData.depth,h1,h2,h x (.head _)]
theorem lay_rows : ∀ rs : List (List Str),(∀ r∈rs,∀ x∈r,PyData.strOk x=true)→PyData.canLayAll0 (rs.map fun r=>.list (r.map PyData.str))=true∧PyData.depthAll (rs.map fun r=>.list (r.map PyData.str))≤1
 | [],_=>⟨rfl,by decide⟩
 | x :: r,h=>by
  obtain⟨h1,h2⟩:=lay_rows r fun y hy=>h y (.tail _ hy)
  obtain⟨h3,h4⟩:=lay_strs x (h x (.head _))
  simp[PyData.canLayAll0,PyData.canLay0,PyData.depthAll,PyData.depth,h1,h3,h4]
  exact Nat.max_le.mpr ⟨Nat.le_refl _,h2⟩
theorem c_neRows {a b : Addr}{rs : List (List Str)}{u1 u2 : List Value}{Q : Value→Heap→Prop}(hA : Rm A 0) (za : At h a (.li u1)) (zb : At h b (.li u2)) (p1 : Paired (X0 h) rs u1) (p2 : Paired (X0 h) rs u2) (ho : ∀ r∈rs,∀ x∈r,PyData.strOk x=true) (q : Q (.bool false) h) : W c A (compareOp .NotEq (.ref a) (.ref b)) Q X h:=fun kk=>by
 obtain⟨o1,e1,n1,rfl⟩:=za
 obtain⟨o2,e2,n2,rfl⟩:=zb
 obtain⟨b1,r1⟩:=Sl p1
 obtain⟨b2,r2⟩:=Sl p2
 obtain⟨l1,l2⟩:=lay_rows rs ho
 have sh : SeqAt.shaped (rowD rs)=true:=by
  show (PyData.canLayAll0 _ && decide (PyData.depthAll _ + 1≤64))=true
  rw[l1,decide_eq_true (by exact q2 ‹_› (by decide))];rfl
 refine ne_dataH (s:=stt c h kk) (da:=rowD rs) (db:=rowD rs) (.list e1 rfl rfl (show ReadsAll h _ _ _ by simpa using r1)) (.list e2 rfl rfl (show ReadsAll h _ _ _ by simpa using r2)) sh sh (S8 (Nat.add_lt_add_right (ye hA.2) 64) (by decide)) ⟨⟨rfl,rfl,rfl⟩,?_⟩
 have : PyData.eqv (rowD rs) (rowD rs)=true:=eqv_rows rs
 rw[this];exact q
theorem strs_paired {xs : List Str}{l : List Value}(p : StrsAre l xs) : Paired (fun w v=>isS w v) xs l:=by
 induction p with
 | nil=>exact .nil
 | cons _ t _ ih=>exact .cons ⟨t,rfl⟩ ih
theorem c_split {x y : Str}{t u : Tok}{Q : Value→Heap→Prop}(H : Led c env g ns vs as os h) (hy : (y.length == 0)=false) (hx : x.length < 100000)
 (k : ∀ D us h',Paired (fun w v=>isS w v) (Txt.split x y) us→Led c env g ns vs (as ++ [D]) (os ++ [.li us]) h'→Q (.ref D) h') : W c A (call (.builtin "str.split") [.str x t,.str y u]) Q X h:=fun kk=>by
 have hs : x.length + 2≤sizeLine:=by rw[sizeLine_eq];exact q2 ‹_› (by decide)
 have hn : (partsBetween x (occurrences x y 0 x.length (x.length + 1)) y.length).length≤sizeLine:=by
  have e1:=StrLaws.occ_length_le x y 0 x.length (x.length + 1)
  rw[length_partsBetween];exact r5 ‹_› ‹_›
 have fin : ∀ (l : List (Str × Tok)) (k2 : Nat),l.map (·.1)=Txt.split x y→Okk c (stt c (h.push { cls:=.type "list",data:=.seq (strValues l).toArray }) k2)∧Q (.ref h.objs.size) (h.push { cls:=.type "list",data:=.seq (strValues l).toArray }):=fun l k2 e =>
  ⟨⟨rfl,rfl,rfl⟩,k _ _ _ (e ▸ strs_paired (strsAre_of_values l)) (H.newL _)⟩
 cases h1 : (decide (x.length < y.length) || decide (strKind x < strKind y))
 ·cases hf : (occurrences x y 0 x.length (x.length + 1)).isEmpty
  ·refine call_meets (s:=stt c h kk) PySem.F.slot_str_split (typeIs_str _ _ _) PySem.F.entry_str_split (PySem.F.args_str_split_2 _ _) (meets_str_split_sep x y t u h1 hy hf (by exact q3 ‹_› (by decide)) hn) ?_
   show wants _ _ _ { stt c h kk with toks:=_,heap:=h.push { cls:=.type "list",data:=.seq (strsFrom kk (partsBetween x (occurrences x y 0 x.length (x.length + 1)) y.length)).toArray } }
   rw[strsFrom_eq]
   exact fin (numbered kk _) _ ((numbered_texts _ _).trans ((if_neg (ne_true_of_eq_false h1)).trans (if_neg (ne_true_of_eq_false hf))).symm)
  ·exact call_meets (s:=stt c h kk) PySem.F.slot_str_split (typeIs_str _ _ _) PySem.F.entry_str_split (PySem.F.args_str_split_2 _ _) (meets_str_split_not_found x y t u h1 hy hf)
    (fin [(x,t)] kk ((if_neg (ne_true_of_eq_false h1)).trans (if_pos hf)).symm)
 ·exact call_meets (s:=stt c h kk) PySem.F.slot_str_split (typeIs_str _ _ _) PySem.F.entry_str_split (PySem.F.args_str_split_2 _ _) (meets_str_split_cannot_occur x y t u h1)
   (fin [(x,t)] kk (if_pos h1).symm)
end
theorem Led.updX (H : Led c env g ns vs as os h) {i : Nat}{a : Addr}{o o' : Sp}{h' : Heap}(ha : as[i]?=some a) (ho : os[i]?=some o) (hs : ∀ b o,b≠a→h.get? b=some o→h'.get? b=some o) (e : At h' a o') :
 Led c env g ns vs as (os.set i o') h':=by
 have hm:=Nd ha
 have hl : env.locals≠a:=fun e=>H.nl (e ▸ hm)
 have hg:=H.new a hm
 have kp : g.hp.StaysIn h':=fun b x q=>hs b x (fun z=>by rw[z,hg] at q;cases q) (H.keep b x q)
 have nsk : ∀ {b : Addr}{m : Str→Option Value},b≠a→h.Ns b m→h'.Ns b m:=fun hb n=>by obtain⟨o,es,ep,e,r⟩:=n;exact⟨o,es,ep,hs _ _ hb e,r⟩
 refine⟨H.eo,H.base,⟨nsk hl H.fr.ns,fun b x q=>kp _ _ (H.low _ _ q),H.fr.above⟩,H.low,kp,H.lg,fun p hp=>nsk (fun e=>H.fa _ (Vy hp) (e ▸ hm)) (H.fo p hp),H.fd,H.fg,H.fa,by rw[List.length_set];exact H.len,H.nd,H.nl,H.new,fun j b x eb ex=>?_⟩
 by_cases hj : j=i
 ·subst hj
  rw[ha] at eb;cases eb
  have hlt : j < os.length:=(Nf ho).1
  rw[List.getElem?_set_self hlt] at ex;cases ex
  exact e
 ·rw[List.getElem?_set_ne (Ne.symm hj)] at ex
  have hb : b≠a:=fun z=>hj (by
   subst z
   exact (List.getElem?_inj (Nf eb).1 H.nd).mp (eb.trans ha.symm))
  exact (H.at_ j b x eb ex).mono fun o e=>hs b o hb e
theorem Led.far3 (H : Led c env g ns vs as os h) {a : Addr}(ha : h.objs.size≤a) : a≠env.locals∧a ∉ g.fs∧a ∉ as:=
 ⟨fun q=>absurd (q ▸ H.fr.ns.lt) (Nat.not_lt_of_le ha),fun q=>absurd (H.ltf q) (Nat.not_lt_of_le ha),fun q=>absurd (H.lt q) (Nat.not_lt_of_le ha)⟩
noncomputable abbrev tS : Sp:=.pr fun o=>∃ ps,o=tabObj ps
theorem w_lam {args : Arguments}{body : Expr}{scope : Scope}{pos : Pos}{Q : Value→Heap→Prop}{j : Nat}{T cc : Addr}{ps : Array Value}{clos : List (Str × Addr)}{mg : Str→Option Value}(H : Led c env g ns vs as os h) (ha : as[j]?=some T) (ho : os[j]?=some (.ob (tabObj ps)))
 (ht : TriplesOk ps.toList) (hnf : codeAmong pos ps.toList=none) (hcode : env.code=.ref cc) (C : ∀ P,codeHdIn (K P) cc T=true) (hcl : closureFor scope env=pure clos) (hmg : c.b.Ns mainGlobals mg) (hb : c.b.BuiltinsAt mg T) (hT : mainGlobals≠T) (hd : defaultsOf args env=([],[]))
 (k : ∀ f c' ctv pm h' (g' : Bas),g.hp.StaysIn g'.hp→g'.fo=g.fo→Led c env g' ns vs as (os.set j tS) h'→At g'.hp f (.ob (kla_obj "<lambda>" (env.qual ++ "<lambda>") args body scope clos pm c' ctv))→g'.hp.CodeRec (.ref c') (env.qual ++ "<lambda>")→Q (.ref f) h') :
 W c A (eval (.Lambda args body scope pos) env) Q X h:=fun kk=>by
 rw[arm_eval_Lambda,hd]
 refine wpAny_bind (m:=evalAll []) (wpAny_pure ?_)
 refine wpAny_bind (wpAny_holding (m:=evalAllOpt []) (wpAny_pure ?_))
 obtain⟨o,e1,e2⟩:=H.at_ j T _ ha ho
 have e2 : o=tabObj ps:=e2
 subst e2
 obtain⟨bm,ob,b1,b2,b3,b4,b5,b6,b7,b8⟩:=hb
 have cb : ∀ b o,c.b.get? b=some o→h.get? b=some o:=H.fr.keep
 refine kla_makeFunction (s:=stt c h kk) (mg:=mg) hcl H.eo.glob (hmg.keeps cb) hcode (codeHd_of_K H.kin (C _)) e1 ht hnf hT ⟨bm,ob,b1,b2,b3,b4,cb _ _ b5,b6,b7,b8⟩ fun c' ctv h' tk hx hge hlt hrec htb=>⟨⟨rfl,rfl,rfl⟩,?_⟩
 have hge : h.objs.size≤c':=hge
 have hsz : h.objs.size≤h'.objs.size:=Na (S5 hge hlt)
 have H1:=H.updX (h':=h'.push (kla_obj "<lambda>" (env.qual ++ "<lambda>") args body scope clos ((mg "__name__").getD .none) c' ctv)) (o':=tS) ha ho (fun b o hb e=>Heap.get?_push_of_some _ (hx b o hb e)) ⟨_,Heap.get?_push_of_some _ htb,_,rfl⟩
 obtain⟨f1,f2,f3⟩:=H.far3 hsz
 obtain⟨q1,q2,q3⟩:=H.far3 hge
 refine k _ c' ctv _ _ _ H1.stays rfl H1.freeze ⟨_,Tp (Heap.get?_push_size _ rfl) f1 f2 f3,rfl⟩ ?_
 obtain⟨c2,oc,vs',t,e,hoc,r⟩:=hrec
 cases e
 exact⟨_,oc,vs',t,rfl,Tp (Heap.get?_push_of_some _ hoc) q1 q2 q3,r⟩
noncomputable abbrev So (scope : Scope) (L : Addr) (clos : List (Str × Addr)) (qual : Str) (f c' : Addr) : Env:=newEnv scope L mainGlobals clos (qual ++ ".<locals>.") (some f) (.ref c') none builtinsNs
theorem w_lamcall {f c' : Addr}{nm qual : Str}{params : Arguments}{body : Expr}{scope : Scope}{clos : List (Str × Addr)}{pm ctv v : Value}{x : Str}{Q : Value→Heap→Prop}(hroom : A.depth < recursionLimit) (H : Led c env g ns vs as os h) (zf : At g.hp f (.ob (kla_obj nm qual params body scope clos pm c' ctv))) (hcr : g.hp.CodeRec (.ref c') qual)
 (hb : bindArgs (kla_fn nm qual params body scope clos pm (.ref c') ctv) ⟨[v],[]⟩=pure [(x,v)]) (hc : ∀ y∈scope.names,y.2≠.cell) (hx : scope.names.lookup x=some .local) (hk : scope.kind=.function) (hdb : x≠"__debug__") (hco : scope.isCoroutine=false) (hge : scope.isGenerator=false)
 (k : ∀ L h₁,(∀ b o,h.get? b=some o→h₁.get? b=some o)→Led c (So scope L clos qual f c') (subB g h env ns vs as) [x] [some v] as os h₁→W c (A.deeper (So scope L clos qual f c')) (eval body (So scope L clos qual f c')) Q noX h₁) : W c A (call (.ref f) [v]) Q X h:=Xy fun kk=>by
 obtain⟨o,e1,e2⟩:=zf
 have e2 : o=_:=e2
 subst e2
 have kp:=H.keep
 refine kla_callFunE (s:=stt c h kk) (body:=body) hroom (kp _ _ e1) rfl hco hge rfl (hcr.at fun o e=>kp _ _ e) ?_
 rw[hb]
 refine wpAny_pure (wpAny_newFunctionEnv (s:=stt c h kk) hc (fun y hy=>by rw[List.mem_singleton] at hy;subst hy;exact hx) (fun h' hns hsb=>?_) hk)
 have keep : ∀ b o,h.get? b=some o→h'.get? b=some o:=fun b o e=>by
  have hlt:=Heap.lt_size e
  exact (hsb.2 b (Nat.ne_of_lt hlt)).trans (Heap.get?_push_of_some _ e)
 refine⟨H.bs.lim.keeps keep,kla_codeExpr ?_⟩
 have eo : EO (So scope h.objs.size clos qual f c') [x]:=⟨hk,fun y hy=>by rw[List.mem_singleton] at hy;subst hy;exact hx,by simp,by simpa using fun e=>hdb e.symm,rfl,rfl⟩
 have L1:=H.enter (env':=So scope h.objs.size clos qual f c') (vs':=[some v]) eo rfl (by
  refine (show (fun y=>[(x,v)].reverse.lookup y)=Ja [x] [some v] from ?_) ▸ hns
  funext y
  show (match y == x with | true=>some v | false=>none)=if y=x then some v else none
  by_cases e : y=x
  ·subst e;simp
  ·rw[if_neg e,show (y == x)=false from beq_eq_false_iff_ne.mpr e]) keep
 exact wpAny_mono (k _ _ keep L1 _) (fun fl s' q=>q) fun o_ o_ q=>q.2.elim
theorem ev_f {x : Str}{p : Pos}{a : Addr}{v : Value}(hk : env.kindOf x=some .free) (hc : env.cells.lookup x=some a) (z : Loc g as os a (.ce (some v))) (hd : (x == ("__debug__" : Str))=false:=by decide) (hn : (x == ("__classdict__" : Str))=false:=by decide) : EV c A env (.Name x p) g ns vs as os (·=v):=fun h H k =>
 wpAny_Name (wpAny_loadName_free H.eo.knd hk hc (H.get z) ⟨⟨rfl,rfl,rfl⟩,rfl,rfl⟩ hn) hd
noncomputable abbrev E2 (x y : Str) (px py px' py' : Pos) (i1 : Expr) (scope : Scope) (pos : Pos) : Expr:=.ListComp (.Name y py') [⟨.Name x px,i1,[],0⟩,⟨.Name y py,.Name x px',[],0⟩] scope pos
section
variable {x y : Str} {px py px' py' pos : Pos} {i1 : Expr} {scope : Scope} {it acc : Value}
theorem turn_in : compTurn (E2 x y px py px' py' i1 scope pos) 1 it acc env=(standAt px' >>= fun o_=>pyNext it >>= fun r=>match r with
 | none=>pure (.done .next)
 | some v=>letOwnedTupleGo (.Name y py) it v >>= fun o_=>assign (.Name y py) env v >>= fun o_ =>
  (eval (.Name y py') env >>= fun z=>call (.builtin "list.append") [acc,z] >>= fun o_=>pure ()) >>= fun o_ =>
   again (.compLoop (E2 x y px py px' py' i1 scope pos) 1 it acc env)):=by rfl
theorem turn_out : compTurn (E2 x y px py px' py' i1 scope pos) 0 it acc env=(standAt i1.pos >>= fun o_=>pyNext it >>= fun r=>match r with
 | none=>pure (.done .next)
 | some v=>letOwnedTupleGo (.Name x px) it v >>= fun o_=>assign (.Name x px) env v >>= fun o_ =>
  eval (.Name x px') env >>= fun z=>standAt px' >>= fun o_=>foldedSetIterable (.Name x px') env z >>= fun z=>holding [z] (pyIter z) >>= fun it2 =>
   runOwn (.compStart (E2 x y px py px' py' i1 scope pos) 1 it2 acc env) env >>= fun o_ =>
   again (.compLoop (E2 x y px py px' py' i1 scope pos) 0 it acc env)):=by rfl
end
section
variable {x y : Str} {px py px' py' pos : Pos} {i1 : Expr} {scope : Scope}
theorem Z5 {α : Type}{t : Sem α}{Q : α→Heap→Prop}{P : α→Shared→Prop}{E : Value→Shared→Prop}{s : Shared}(z : W c A t Q noX s.heap) (o : Okk c s) (k : ∀ a s',Okk c s'→Q a s'.heap→P a s') : wpAny (mdl c) A t P E s:=
 wpAny_mono (Zy z o) (fun a s' q=>k a s' q.1 q.2) fun o_ o_ q=>q.2.elim
theorem cd_in {it acc a : Addr}{us l : List Value}{v0 : Option Value}(hh : A.handled=none) (p iy : Nat) (H : Led c env g ns vs (as ++ [it]) (os ++ [.itT a 0]) h) (hp : as[p]?=some acc) (ho : os[p]?=some (.li l)) (z : At g.hp a (.tu us)) (hn : ns[iy]?=some y) (hv : vs[iy]?=some v0) (hl : l.length + us.length < 1000) :
 CD c A (.compStart (E2 x y px py px' py' i1 scope pos) 1 (.ref it) (.ref acc) env) (fun r h'=>(∃ f,r=.ok f)∧∃ w,Led c env g ns (vs.set iy w) as (os.set p (.li (l ++ us))) h') h:=by
 have hlen:=H.len1
 have hpl:=Zn ho
 have loop : ∀ kk,codeAny (mdl c) A (.compLoop (E2 x y px py px' py' i1 scope pos) 1 (.ref it) (.ref acc) env) (fun r s'=>Okk c s'∧(∃ f,r=.ok f)∧∃ w,Led c env g ns (vs.set iy w) as (os.set p (.li (l ++ us))) s'.heap) (stt c h kk):=fun kk=>by
  refine ca_let ?_
  intro R'
  refine codeAny_loop rfl (fun m s=>An2 (Okk c s) (Ex2 fun i w=>An3 (m=us.length - i) (i≤us.length) (Led c env g ns (vs.set iy w) (as ++ [it]) (os.set p (.li (l ++ us.take i)) ++ [Sp.itT a i]) s.heap))) (fun m s hI=>?_) us.length ⟨⟨rfl,rfl,rfl⟩,0,v0,rfl,Nat.zero_le _,?_⟩
  ·obtain⟨o3,i,w,rfl,hi,H1⟩:=hI
   show wpAny _ A ((compTurn (E2 x y px py px' py' i1 scope pos) 1 (.ref it) (.ref acc) env).onRaise (fun x=>do noteFrame x env;theTreesLotGoes x)) _ _ s
   refine wpAny_noted ?_
   rw[turn_in]
   refine Jd ?_
   intro Q2 X2
   have ja : (as ++ [it])[as.length]?=some it:=Ze rfl
   have hl2 : as.length=(os.set p (.li (l ++ us.take i))).length:=by rw[List.length_set];exact hlen
   have jo : (os.set p (.li (l ++ us.take i)) ++ [Sp.itT a i])[as.length]?=some (.itT a i):=Ze hl2
   refine wpAny_bind (wpAny_standAt (wpAny_bind ?_))
   rcases Nat.lt_or_ge i us.length with hlt | hge
   ·refine Z5 ((Jn hh).nxt (i:=i) H1 ja jo z hlt) o3 fun r s1 o4 q=>?_
    obtain⟨v,rfl,hI,H2⟩:=q
    rw[Yt hl2] at H2
    refine Jd ?_
    intro Q3 X3
    refine wpAny_bind (wpAny_of_eq (rfl : letOwnedTupleGo (.Name y py) (.ref it) v=pure ()) ?_)
    have hvi : (vs.set iy w)[iy]?=some w:=List.getElem?_set_self (Zn hv)
    refine wpAny_bind (Z5 (Q:=fun o_ h'=>Led c env g ns ((vs.set iy w).set iy (some v)) (as ++ [it]) (os.set p (.li (l ++ us.take i)) ++ [Sp.itT a (i + 1)]) h') (Yp iy hn hvi H2 fun h' H'=>H') o4 fun o_ s2 o5 H3=>?_)
    refine wpAny_bind (wpAny_bind (Z5 (Q:=fun u h'=>u=v∧h'=s2.heap) ((Za iy hn (List.getElem?_set_self (by rw[List.length_set];exact Zn hv)) : EV c A env (.Name y py') g ns _ _ _ _).eq H3 ⟨rfl,rfl⟩) o5 fun u s3 o6 q=>?_))
    obtain⟨rfl,e3⟩:=q
    rw[← e3] at H3
    refine wpAny_bind (Z5 (Q:=fun o_ h'=>Led c env g ns ((vs.set iy w).set iy (some u)) (as ++ [it]) ((os.set p (.li (l ++ us.take i)) ++ [Sp.itT a (i + 1)]).set p (.li (l ++ us.take i ++ [u]))) h') (X8 H3 (ap hp _) (ap (List.getElem?_set_self hpl) _) (by rw[sizeLine_eq];simp;exact Na (S5 (Nat.add_le_add_left (Nat.min_le_right ..) _) (S8 hl (by decide)))) fun h' H'=>H') o6 fun o_ s4 o7 H4=>?_)
    refine wpAny_pure (wpAny_pure ⟨rfl,us.length - (i + 1),Nat.sub_lt_sub_left hlt (Nat.lt_succ_self i),o7,i + 1,some u,rfl,hlt,?_⟩)
    rw[List.set_set,Z6 (by rw[List.length_set];exact hpl),List.set_set] at H4
    rw[List.take_add_one,hI,Option.toList_some,← List.append_assoc]
    exact H4
   ·obtain rfl : i=us.length:=by lia
    refine Z5 ((Jn hh).stp H1 ja jo z) o3 fun r s1 o4 q=>?_
    obtain⟨rfl,H2⟩:=q
    rw[Yw rfl,Yw hl2,List.take_length] at H2
    exact wpAny_pure ⟨o4,⟨_,rfl⟩,w,H2⟩
  ·rw[Xh hv,List.take_zero,List.append_nil,Xh ho];exact H
 intro kk
 refine codeAny_of_tree ?_
 show wpAny _ _ ((compStart (E2 x y px py px' py' i1 scope pos) 1 (.ref it) (.ref acc) env).onRaise (fun x=>do noteFrame x env;standAt theWindowsPlace)) _ _ _
 refine wpAny_notedAt ?_
 unfold compStart
 show wpAny _ _ (ask >>= _) _ _ _
 refine wpAny_bind (wpAny_askSetting (wpAny_ite ?_))
 split
 ·first
   | exact wpAny_bind (wpAny_pure (wpAny_pure (And.intro rfl (loop kk))))
   | exact wpAny_pure (And.intro rfl (loop kk))
 ·have hre:=(Jn (c:=c) (A:=A) (a:=a) (l:=us) hh).re H (Ze rfl) (Ze hlen)
  refine wpAny_bind (wpAny_rule ?_)
  show wpAny _ _ (standAt px' >>= _) _ _ _
  refine wpAny_bind (wpAny_standAt (wpAny_bind (wpAny_mono (hre kk) (fun it' s' q=>?_) fun o_ o_ q=>q.2.elim)))
  obtain⟨o1,rfl,e⟩:=q
  refine wpAny_pure (And.intro rfl ?_)
  rw[o1.eq,e]
  exact loop _
noncomputable def Td (hp : Heap) (v : Value) (us : List Value) : Prop:=∃ a,v=.ref a∧At hp a (.tu us)
theorem Td.mono {g g' : Heap}{us : List Value}{v : Value}(x : Td g v us) (k : g.StaysIn g') : Td g' v us:=by obtain⟨b,e,z⟩:=x;exact⟨b,e,z.stay k⟩
theorem cd_out {it acc a : Addr}{ls : List Value}{uss : List (List Value)}{v0 v1 : Option Value}(hh : A.handled=none) (ix iy : Nat) (hne : ix≠iy) (H : Led c env g ns vs (as ++ [it] ++ [acc]) (os ++ [.itL a 0] ++ [.li []]) h) (z : At g.hp a (.li ls)) (zp : Paired (fun us v=>Td g.hp v us) uss ls)
 (hx : ns[ix]?=some x) (hvx : vs[ix]?=some v0) (hn : ns[iy]?=some y) (hv : vs[iy]?=some v1) (hsz : uss.flatten.length < 1000) :
 CD c A (.compStart (E2 x y px py px' py' i1 scope pos) 0 (.ref it) (.ref acc) env) (fun r h'=>(∃ f,r=.ok f)∧∃ vs',vs'.length=vs.length∧Led c env g ns vs' (as ++ [acc]) (os ++ [.li uss.flatten]) h') h:=by
 have hlen : as.length=os.length:=by have:=H.len;simp at this;assumption
 have hul:=Zu zp
 have ja : (as ++ [it] ++ [acc])[as.length]?=some it:=Yh rfl
 have pa : (as ++ [it] ++ [acc])[as.length + 1]?=some acc:=Yy rfl
 have loop : ∀ kk,codeAny (mdl c) A (.compLoop (E2 x y px py px' py' i1 scope pos) 0 (.ref it) (.ref acc) env) (fun r s'=>Okk c s'∧(∃ f,r=.ok f)∧∃ vs',vs'.length=vs.length∧Led c env g ns vs' (as ++ [acc]) (os ++ [.li uss.flatten]) s'.heap) (stt c h kk):=fun kk=>by
  refine ca_let ?_
  intro R'
  refine codeAny_loop rfl (fun m s=>An2 (Okk c s) (Ex2 fun i vs'=>An4 (m=ls.length - i) (i≤ls.length) (vs'.length=vs.length) (Led c env g ns vs' (as ++ [it] ++ [acc]) (os ++ [Sp.itL a i] ++ [.li (uss.take i).flatten]) s.heap))) (fun m s hI=>?_) ls.length ⟨⟨rfl,rfl,rfl⟩,0,vs,rfl,Nat.zero_le _,rfl,H⟩
  obtain⟨o3,i,vs1,rfl,hi,hvl,H1⟩:=hI
  show wpAny _ A ((compTurn (E2 x y px py px' py' i1 scope pos) 0 (.ref it) (.ref acc) env).onRaise (fun x=>do noteFrame x env;theTreesLotGoes x)) _ _ s
  refine wpAny_noted ?_
  rw[turn_out]
  refine Jd ?_
  intro Q2 X2
  have jo : (os ++ [Sp.itL a i] ++ [.li (uss.take i).flatten])[as.length]?=some (.itL a i):=Yh hlen
  refine wpAny_bind (wpAny_standAt (wpAny_bind ?_))
  rcases Nat.lt_or_ge i ls.length with hlt | hge
  ·refine Z5 ((Xk hh).nxt (i:=i) H1 ja jo z hlt) o3 fun r s1 o4 q=>?_
   obtain⟨v,rfl,hI,H2⟩:=q
   rw[V9 hlen] at H2
   refine Jd ?_
   intro Q3 X3
   have hiu : i < uss.length:=by exact q9 ‹_› ‹_›
   obtain⟨v',ev',⟨b,rfl,zb⟩⟩:=Yn zp (Nc hiu)
   rw[hI] at ev';cases ev'
   refine wpAny_bind (wpAny_of_eq (rfl : letOwnedTupleGo (.Name x px) (.ref it) (.ref b)=pure ()) ?_)
   have hxl : ix < vs1.length:=by rw[hvl];exact Zn hvx
   have hyl : iy < vs1.length:=by rw[hvl];exact Zn hv
   refine wpAny_bind (Z5 (Q:=fun o_ h'=>Led c env g ns (vs1.set ix (some (.ref b))) (as ++ [it] ++ [acc]) (os ++ [Sp.itL a (i + 1)] ++ [.li (uss.take i).flatten]) h') (Yp ix hx (Nc hxl) H2 fun h' H'=>H') o4 fun o_ s2 o5 H3=>?_)
   refine wpAny_bind (Z5 (Q:=fun u h'=>u=.ref b∧h'=s2.heap) ((Za ix hx (List.getElem?_set_self hxl) : EV c A env (.Name x px') g ns _ _ _ _).eq H3 ⟨rfl,rfl⟩) o5 fun u s3 o6 q=>?_)
   obtain⟨rfl,e3⟩:=q
   rw[← e3] at H3
   refine wpAny_bind (wpAny_standAt (wpAny_bind (wpAny_of_eq (rfl : foldedSetIterable (.Name x px') env (.ref b)=pure (.ref b)) (wpAny_bind (wpAny_holding ?_)))))
   refine Z5 (Q:=fun u h'=>∃ it2,u=.ref it2∧Led c env g ns (vs1.set ix (some (.ref b))) (as ++ [it] ++ [acc] ++ [it2]) (os ++ [Sp.itL a (i + 1)] ++ [.li (uss.take i).flatten] ++ [.itT b 0]) h') (Vl H3 (.fz zb) fun it2 h' H'=>⟨it2,rfl,H'⟩) o6 fun u s4 o7 q=>?_
   obtain⟨it2,rfl,H4⟩:=q
   have hsub : (uss.take (i + 1)).flatten=(uss.take i).flatten ++ uss[i]:=by
    rw[List.take_add_one,Nc hiu,List.flatten_append,Option.toList_some,List.flatten_cons,List.flatten_nil,List.append_nil]
   have hle : (uss.take (i + 1)).flatten.length≤uss.flatten.length:=by
    have : uss.flatten=(uss.take (i + 1)).flatten ++ (uss.drop (i + 1)).flatten:=by rw[← List.flatten_append,List.take_append_drop]
    rw[this,List.length_append];with_reducible exact Nat.le_add_right _ _
   have ci:=cd_in (x:=x) (px:=px) (py:=py) (px':=px') (py':=py') (pos:=pos) (i1:=i1) (scope:=scope) hh (as.length + 1) iy H4 pa (Yy hlen) zb hn (Nc (by rw[List.length_set];exact hyl)) (by
    have:=congrArg List.length hsub;rw[List.length_append] at this;exact S5 (S7 (S9 this.symm) hle) hsz)
   rw[o7.eq]
   refine wpAny_bind (wpAny_runOwn (codeAny_mono (ci _) fun r s' q=>?_))
   obtain⟨o8,⟨f,rfl⟩,w,H5⟩:=q
   dsimp only
   refine wpAny_pure ⟨rfl,ls.length - (i + 1),Nat.sub_lt_sub_left hlt (Nat.lt_succ_self i),o8,i + 1,_,rfl,hlt,?_,by rw[hsub];rw[Vg hlen] at H5;exact H5⟩
   rw[List.length_set,List.length_set];exact hvl
  ·obtain rfl : i=ls.length:=by lia
   refine Z5 ((Xk hh).stp H1 ja jo z) o3 fun r s1 o4 q=>?_
   obtain⟨rfl,H2⟩:=q
   rw[Jp rfl,Jp hlen,← hul,List.take_length] at H2
   exact wpAny_pure ⟨o4,⟨_,rfl⟩,vs1,hvl,H2⟩
 intro kk
 refine codeAny_compStart_list (loop kk) (wpAny_mono ((Xk (a:=a) (l:=ls) hh).re H ja (Yh hlen) kk) (fun r s' q=>?_) fun o_ o_ q=>q.2.elim)
 obtain⟨o1,rfl,e⟩:=q
 rw[o1.eq,e]
 exact loop _
theorem w_lc2 {a : Addr}{ls : List Value}{uss : List (List Value)}{cl : List (Str × Addr)}{Q : Value→Heap→Prop}(hh : A.handled=none) (H : Led c env g ns vs as os h) (L : LcK scope cl env [x,y]) (z1 : EV c A env i1 g ns vs as os (·=.ref a)) (z : At g.hp a (.li ls)) (zp : Paired (fun us v=>Td g.hp v us) uss ls) (hsz : uss.flatten.length < 1000)
 (k : ∀ acc h',Led c env g ns vs (as ++ [acc]) (os ++ [.li uss.flatten]) h'→Q (.ref acc) h')
 (hs : autoParam (∀ x,foldedSetIterable i1 env x=pure x) zI) : W c A (eval (E2 x y px py px' py' i1 scope pos) env) Q X h:=
 Sh H L (z1.eq H (Jl H (.fz z) fun it h' H'=>⟨g,it,.itL a 0,fun o_ l=>l=uss.flatten,Zt _,rfl,rfl,H',fun acc E' gE h' st3 ef H''=>U1 (cd_out hh 0 1 (by decide) H'' (z.stay st3) (Jm (fun us v x=>x.mono st3) zp) rfl rfl rfl rfl hsz) fun r h4 q=>by
  obtain⟨⟨f,er⟩,vs',hvl,H4⟩:=q
  exact⟨f,er,gE,vs',_,Zt _,rfl,H4,rfl⟩,fun g' l h' acc e k1 k2 H'=>by subst e;exact k acc h' (H'.weaken H.low k1 k2.symm)⟩)) hs
end
noncomputable abbrev fdLW : FuncData:=Xl (st 37) "law" .none (.str "law_dn0072_05" 1378) (.ref 908)
noncomputable abbrev Y8 : List PySem.Str:=["script","due","text","rows","places","heap","k","whole","done","turned","back"]
noncomputable abbrev cfLW (L : Addr) : List (PySem.Str × Addr):=[("sizes",L + 6),("first",L + 5),("some",L + 4),("least",L + 3),("order",L + 2),("parts",L + 1)]
theorem M6 : FnC 909 fdLW (fnB (st 37)) Y8 cfLW:=⟨fun P=>by kernel_rfl,fun P=>by kernel_rfl,rfl,by kernel_rfl,dk,dk,dk,rfl,rfl,by kernel_rfl,by kernel_rfl,rfl,fun L=>by kernel_rfl,fun L=>by simp;exact dk⟩
theorem B_lw (a : Value) : bindArgs fdLW ⟨[a],[]⟩=pure [(Str.ofString "script",a)]:=by kernel_rfl
noncomputable abbrev eL (L : Addr) : Env:=callEnvC fdLW L 909
noncomputable abbrev LA (L : Addr) : List Addr:=[906,L + 6,L + 5,L + 4,L + 3,L + 2,L + 1]
noncomputable abbrev LO (t : Sp) (sz fi so le od pa : Option Value) : List Sp:=[t,.ce sz,.ce fi,.ce so,.ce le,.ce od,.ce pa]
noncomputable def QL (b : Heap) : Flow→Heap→Prop:=fun fl h'=>Js fl=.bool true∧b.StaysIn h'∧∃ ps,h'.get? 906=some (tabObj ps)
noncomputable abbrev sL (k : Nat) : Stmt:=(fnB (st 37)).getD k (.Pass ⟨0,0,0,0⟩)
noncomputable abbrev bL (k : Nat) : List Stmt:=(fnB (st 37)).drop k
theorem lb0 : fnB (st 37)=sL 0 :: bL 1:=by kernel_rfl
theorem lb1 : bL 1=sL 1 :: bL 2:=by kernel_rfl
theorem lb2 : bL 2=sL 2 :: bL 3:=by kernel_rfl
theorem lb3 : bL 3=sL 3 :: bL 4:=by kernel_rfl
theorem lb4 : bL 4=sL 4 :: bL 5:=by kernel_rfl
theorem lb5 : bL 5=sL 5 :: bL 6:=by kernel_rfl
theorem lb6 : bL 6=sL 6 :: bL 7:=by kernel_rfl
theorem lb7 : bL 7=sL 7 :: bL 8:=by kernel_rfl
theorem lb8 : bL 8=sL 8 :: bL 9:=by kernel_rfl
theorem lb9 : bL 9=sL 9 :: bL 10:=by kernel_rfl
theorem lb10 : bL 10=sL 10 :: bL 11:=by kernel_rfl
theorem lb11 : bL 11=sL 11 :: bL 12:=by kernel_rfl
theorem lb12 : bL 12=sL 12 :: bL 13:=by kernel_rfl
theorem lb13 : bL 13=sL 13 :: bL 14:=by kernel_rfl
theorem lb14 : bL 14=sL 14 :: bL 15:=by kernel_rfl
theorem lb15 : bL 15=sL 15 :: []:=by kernel_rfl
theorem n_rows (P : Params) : nsIn (K P) mainGlobals "_law_rows"=some (some (.ref 887)):=by kernel_rfl
theorem n_split (P : Params) : nsIn (K P) mainGlobals "split"=some (some (.ref 882)):=by kernel_rfl
theorem n_ord (P : Params) : nsIn (K P) mainGlobals "_law_order"=some (some (.ref 899)):=by kernel_rfl
theorem n_clk (P : Params) : nsIn (K P) mainGlobals "_law_clock"=some (some (.ref 904)):=by kernel_rfl
theorem Sj (P : Params) : nsIn (K P) mainGlobals "sorted"=some none:=by kernel_rfl
theorem n_min (P : Params) : nsIn (K P) mainGlobals "min"=some none:=by kernel_rfl
theorem k_rows : Jc 887:=fun P=>by kernel_rfl
theorem k_split : Jc 882:=fun P=>by kernel_rfl
theorem k_ord : Jc 899:=fun P=>by kernel_rfl
theorem k_clk : Jc 904:=fun P=>by kernel_rfl
theorem Vu {g : Bas}(h : g.fo=[]) : g.fs=[]:=by unfold Bas.fs;rw[h];rfl
section
variable {L : Addr} {t : Sp} {Q : Flow → Heap → Prop}
theorem Yg {b b' : List Stmt}{env : Env}{X : Value→Heap→Prop}(e : b=b') (x : W c A (execs b' env) Q X h) : W c A (execs b env) Q X h:=e ▸ x
theorem law_0 {l : Addr}{svs : List Value}{ks : List Int}(hA : Rm A 20) (hh : A.handled=none) (FA : FR A [L]) (hg : g.fo=[]) (H : Led c (eL L) g Y8 [some (.ref l),none,none,none,none,none,none,none,none,none,none] (LA L) (LO t none none none none none none) h) (z : At g.hp l (.li svs)) (pk : pI ks svs) (hk : ks.length < 1000)
 (cont : ∀ (n : Nat) (ev : Bool) (ms : List Int) (g' : Bas) (rw : Addr) (rvs : List Value) (tt : Tok) (h' : Heap),5≤n→n≤9→ms.length=2 * n→(∀ m∈ms,0≤m∧m < 10 ^ 30)→g.hp.StaysIn g'.hp→g'.fo=[] →
  Led c (eL L) g' Y8 [some (.ref l),some (.ref rw),some (.str (Txt.join (Str.ofString "\n") ((rowsOf n ms).map (Y3 ev))) tt),none,none,none,none,none,none,none,none] (LA L) (LO t none none none none none none) h'→At g'.hp rw (.li rvs)→Paired (X0 g'.hp) (rowsOf n ms) rvs→W c A (execs (bL 1) (eL L)) Q noX h') :
 W c A (execs (fnB (st 37)) (eL L)) Q noX h:=by
 refine Yg lb0 ?_
 refine Vm ?_
 refine Yl H (Xm (by rfl) n_rows) k_rows (Zq H (Za 0 rfl rfl) (Zd ⟨H.kin,?_⟩))
 refine Zh (rows_ok (hA.mono (by decide)) hh (by rw[Vu hg];exact FA) H z pk hk) ?_ fun o_ o_ q=>q
 rintro v h1 ⟨n,ev,ms,g',tp,rw,rvs,tt,rfl,h5,h9,hl,hm,k1,f1,H1,z1,z2,p1⟩
 refine Ss hh H1 (.fz z1) rfl fun h2 H2=>?_
 refine Yi (Yp 1 rfl rfl H2 fun h3 H3=>?_)
 refine Yi (Yp 2 rfl rfl H3 fun h4 H4=>Ud ?_)
 exact cont n ev ms g' rw rvs tt h4 h5 h9 hl hm k1 (f1.trans hg) H4 z2 p1
end
theorem word_free : ∀ (ev : Bool) (i : Nat),i < 9→10 ∉ (Z4 ev (nmL.getD i (Str.ofString ""))).cps.toList:=by
 intro ev
 cases ev <;> exact dk
theorem T7 {n : Nat}{ms : List Int}{i : Nat}(hi : i < n) : (rowsOf n ms)[i]?=some [nmL.getD i (Str.ofString ""),ds (ms.getD (2 * i) 0),ds (ms.getD (2 * i + 1) 0)]:=by
 unfold rowsOf
 rw[List.getElem?_map,List.getElem?_range hi];rfl
theorem Uk {ms : List Int}{j : Nat}(hm : ∀ m∈ms,0≤m∧m < 10 ^ 30) (hj : j < ms.length) : 0≤ms.getD j 0∧ms.getD j 0 < 10 ^ 30:=by
 rw[List.getD_eq_getElem?_getD,Nc hj]
 exact hm _ (List.getElem_mem _)
theorem ds_free {m : Int}(h0 : 0≤m) : 10 ∉ (ds m).cps.toList:=fun q=>by
 obtain⟨n,l,e,o_,hd⟩:=Sm h0
 rw[e] at q
 exact absurd (dg_n (hd _ q)) (by decide)
theorem rline_ok {ev : Bool}{i : Nat}{a b : Int}(hi : i < 9) (ha : 0≤a∧a < 10 ^ 30) (hb : 0≤b∧b < 10 ^ 30) : 10 ∉ (Y3 ev [nmL.getD i (Str.ofString ""),ds a,ds b]).cps.toList∧(Y3 ev [nmL.getD i (Str.ofString ""),ds a,ds b]).length≤2000:=by
 show 10 ∉ (Z4 ev (nmL.getD i (Str.ofString "")) ++ Str.ofString " " ++ ds a ++ Str.ofString "\t" ++ ds b ++ Str.ofString "# 'til \\").cps.toList∧(Z4 ev (nmL.getD i (Str.ofString "")) ++ Str.ofString " " ++ ds a ++ Str.ofString "\t" ++ ds b ++ Str.ofString "# 'til \\").length≤2000
 constructor
 ·rw[Y0,Y0,Y0,Y0,Y0]
  have e1:=word_free ev i hi
  have e2:=ds_free ha.1
  have e3:=ds_free hb.1
  have e4 : 10 ∉ (Str.ofString " ").cps.toList:=dk
  have e5 : 10 ∉ (Str.ofString "\t").cps.toList:=dk
  have e6 : 10 ∉ (Str.ofString "# 'til \\").cps.toList:=dk
  simp only[List.mem_append,not_or]
  exact⟨⟨⟨⟨⟨e1,e4⟩,e2⟩,e5⟩,e3⟩,e6⟩
 ·obtain⟨q1,q2,q3⟩:=nm_ok i hi
  have hw:=Su ev q2 q3
  have l1:=T6 ha.1 ha.2
  have l2:=T6 hb.1 hb.2
  rw[Str.length_append,Str.length_append,Str.length_append,Str.length_append,Str.length_append,x1,x2,x3];exact S7 (Nat.add_le_add_right (Nat.add_le_add (Nat.add_le_add_right (Nat.add_le_add (Nat.add_le_add_right (Na hw) 1) l1) 1) l2) 8) (by decide)
theorem lines_ok {n : Nat}{ms : List Int}(ev : Bool) (h9 : n≤9) (hl : ms.length=2 * n) (hm : ∀ m∈ms,0≤m∧m < 10 ^ 30) : ∀ x∈(rowsOf n ms).map (Y3 ev),10 ∉ x.cps.toList∧x.length≤2000:=fun x hx=>by
 obtain⟨r,hr,rfl⟩:=Ng hx
 obtain⟨i,hi,rfl⟩:=Ng hr
 have hi:=List.mem_range.mp hi
 exact rline_ok (S6 hi h9) (Uk hm (xh hl hi)) (Uk hm (xi hl hi))
theorem sum_le2 : ∀ {l : List Str},(∀ x∈l,x.length≤2000)→(l.map (·.length)).sum≤2000 * l.length
 | [],_=>by simp
 | x :: l,h=>by
  have h1:=h x (.head _)
  have h2:=sum_le2 fun y hy=>h y (.tail _ hy)
  simp only[List.map_cons,List.sum_cons,List.length_cons];exact S7 (Nat.add_le_add h1 h2) (S9 (Nat.add_comm ..))
theorem text_len {l : List Str}(h : ∀ x∈l,x.length≤2000) (hl : l.length≤9) : (Txt.join (Str.ofString "\n") l).length < 90000:=by
 have h1 : (Txt.join (Str.ofString "\n") l).length=_:=size_glued (Str.ofString "\n") l
 have h2:=sum_le2 h
 rw[h1,show (Str.ofString "\n").length=1 from dk];exact S5 (Nat.add_le_add (S7 h2 (Nat.mul_le_mul_left 2000 hl)) (Nat.mul_le_mul_right 1 (S7 (Nat.sub_le ..) hl))) (by decide)
section
variable {L : Addr} {t : Sp} {Q : Flow → Heap → Prop}
theorem law_1 {l rw : Addr}{n : Nat}{ev : Bool}{ms : List Int}{tt : Tok}(hA : Rm A 20) (hh : A.handled=none) (FA : FR A [L]) (hg : g.fo=[]) (h5 : 5≤n) (h9 : n≤9) (hl : ms.length=2 * n) (hm : ∀ m∈ms,0≤m∧m < 10 ^ 30)
 (H : Led c (eL L) g Y8 [some (.ref l),some (.ref rw),some (.str (Txt.join (Str.ofString "\n") ((rowsOf n ms).map (Y3 ev))) tt),none,none,none,none,none,none,none,none] (LA L) (LO t none none none none none none) h)
 (cont : ∀ (g' : Bas) (rs : Addr) (rvs : List Value) (v2 : Option Value) (h' : Heap),g.hp.StaysIn g'.hp→g'.fo=[]→Led c (eL L) g' Y8 [some (.ref l),some (.ref rw),v2,some (.ref rs),none,none,none,none,none,none,none] (LA L) (LO t none none none none none none) h' →
  At g'.hp rs (.li rvs)→Paired (X0 g'.hp) (rowsOf n ms) rvs→W c A (execs (bL 2) (eL L)) Q noX h') : W c A (execs (bL 1) (eL L)) Q noX h:=by
 have hro : (rowsOf n ms).length=n:=by simp[rowsOf]
 have lo:=lines_ok ev h9 hl hm
 have hsp : Txt.split (Txt.join (Str.ofString "\n") ((rowsOf n ms).map (Y3 ev))) (Str.ofString "\n")=(rowsOf n ms).map (Y3 ev):=split_lines (fun x hx=>(lo x hx).1) (fun q=>by
  have:=congrArg List.length q;rw[List.length_map,hro] at this;simp at this;lia)
 have htl:=text_len (l:=(rowsOf n ms).map (Y3 ev)) (fun x hx=>(lo x hx).2) (by rw[List.length_map,hro];exact h9)
 refine Yg lb1 ?_
 refine w_lcT (ns':=["line"]) (cl:=[]) 3 rfl rfl H ?_ ?_ (by kernel_rfl)
 ·exact⟨dk,by kernel_rfl,dk,by kernel_rfl,dk,dk,dk⟩
 refine w_methS H (Zk 2 rfl rfl) PySem.F.slot_str_split PySem.F.type_str_split fun t1=>Zi ((ev_s : EV c _ _ _ _ _ _ _ _ _).runS H fun u=>?_)
 refine Zd (c_split H dk (S8 htl (by decide)) fun D us h1 p1 H1=>?_)
 rw[hsp] at p1
 obtain⟨g1,k1,f1,H2,zD⟩:=H1.solid
 have hul:=Zu p1
 rw[List.length_map,hro] at hul
 refine Jl H2 (.fz zD) fun it h2 H3=>?_
 refine LcC.all g1 (fun i hp v=>X0 hp ((rowsOf n ms).getD i []) v) (fun i g1 g2 v k x=>x.mono k) k1 f1 (Xk hh) zD H3 (hul ▸ S5 h9 (by decide)) (fun i g' v h3 E acc l2 hi st2 fs2 hI H4=>?_) fun g' l' h3 acc hl' hR st' fo' H4=>?_
 ·have hin : i < n:=Nat.lt_of_lt_of_eq hi hul.symm
  obtain⟨v',ev',⟨t2,rfl⟩⟩:=Yn p1 (i:=i) (x:=Y3 ev [nmL.getD i (Str.ofString ""),ds (ms.getD (2 * i) 0),ds (ms.getD (2 * i + 1) 0)]) (by rw[List.getElem?_map,T7 hin];rfl)
  rw[hI] at ev';cases ev'
  have d1:=Uk hm (xh hl hin)
  have d2:=Uk hm (xi hl hin)
  obtain⟨q1,q2⟩:=rline_ok (ev:=ev) (i:=i) (S6 hin h9) d1 d2
  refine Yl H4 (Xm (by kernel_rfl) n_split) k_split (Zq H4 (Za 0 rfl rfl) (Zq H4 V4 (Zd ⟨H4.kin,?_⟩)))
  refine Zh (split_ok (hA.mono (by decide)) hh (by rw[fs2,Vu hg];exact FA.more E) H4 (S5 q2 (by decide)) q1 (line_toks (S6 hin h9) d1.1 d2.1) (by simp)) ?_ fun o_ o_ q=>q
  rintro v h4 ⟨S,us',rfl,p2,H5⟩
  obtain⟨g5,k5,f5,H6,zS⟩:=H5.solid
  refine⟨g5,_,k5,f5,H6,S,us',rfl,zS,?_⟩
  rw[List.getD_eq_getElem?_getD,T7 hin];exact p2
 ·obtain⟨g5,k5,f5,H6,zS⟩:=H4.solid
  refine cont g5 acc l' _ h3 (Zc k1 (Zc st' k5)) (f5.trans (fo'.trans hg)) H6 zS (Vp (by rw[hro];exact hl'.trans hul.symm) fun i v x e1 e2=>?_)
  obtain⟨a,us',e,za,p⟩:=hR i v e1
  rw[List.getD_eq_getElem?_getD,e2] at p
  exact⟨a,us',e,za.stay k5,p⟩
theorem nm_strOk : ∀ i,i < 9→PyData.strOk (nmL.getD i (Str.ofString ""))=true:=dk
theorem ds_strOk {m : Int}(h0 : 0≤m) : PyData.strOk (ds m)=true:=by
 obtain⟨n,l,e,e',hd⟩:=Sm h0
 show (ds m).cps.all (· < 0x110000)=true
 rw[Array.all_eq_true']
 intro x hx
 have hx : x∈(ds m).cps.toList:=by simpa using hx
 rw[e] at hx
 have:=dg_n (hd x hx)
 simp;lia
theorem law_2 {l rw rs : Addr}{n : Nat}{ms : List Int}{v2 : Option Value}{r1 r2 : List Value}(hA : Rm A 20) (h9 : n≤9) (hl : ms.length=2 * n) (hm : ∀ m∈ms,0≤m∧m < 10 ^ 30)
 (H : Led c (eL L) g Y8 [some (.ref l),some (.ref rw),v2,some (.ref rs),none,none,none,none,none,none,none] (LA L) (LO t none none none none none none) h) (z1 : At g.hp rw (.li r1)) (p1 : Paired (X0 g.hp) (rowsOf n ms) r1) (z2 : At g.hp rs (.li r2)) (p2 : Paired (X0 g.hp) (rowsOf n ms) r2)
 (cont : W c A (execs (bL 3) (eL L)) Q noX h) : W c A (execs (bL 2) (eL L)) Q noX h:=by
 have up : ∀ {rv : List Value},Paired (X0 g.hp) (rowsOf n ms) rv→Paired (X0 h) (rowsOf n ms) rv:=fun p=>Jm (fun r v x=>x.mono H.keep) p
 refine Yg lb2 ?_
 refine Uq (Yx ((Za 3 rfl rfl : EV c _ _ _ _ _ _ _ _ _).eq H ((Za 1 rfl rfl : EV c _ _ _ _ _ _ _ _ _).eq H (c_neRows (hA.mono (by decide)) (z2.stay H.keep) (z1.stay H.keep) (up p2) (up p1) ?_ (Yb ?_)))))
 ·intro r hr x hx
  obtain⟨i,hi,rfl⟩:=Ng hr
  have hi:=List.mem_range.mp hi
  have d1:=Uk hm (xh hl hi)
  have d2:=Uk hm (xi hl hi)
  simp only[List.mem_cons,List.not_mem_nil,or_false] at hx
  rcases hx with rfl | rfl | rfl
  ·exact nm_strOk i (S6 hi h9)
  ·exact ds_strOk d1.1
  ·exact ds_strOk d2.1
 ·simp only[Bool.false_eq_true,if_false]
  exact fun kk=>wpAny_execs_nil ⟨⟨rfl,rfl,rfl⟩,cont⟩
end
noncomputable def psOf (n : Nat) (ms : List Int) : List (Int × Int):=(List.range n).map fun i=>(ms.getD (2 * i) 0,ms.getD (2 * i + 1) 0)
theorem ps_len (n : Nat) (ms : List Int) : (psOf n ms).length=n:=by simp[psOf]
theorem ps_get {n : Nat}{ms : List Int}{i : Nat}(hi : i < n) : (psOf n ms)[i]?=some (ms.getD (2 * i) 0,ms.getD (2 * i + 1) 0):=by
 unfold psOf
 rw[List.getElem?_map,List.getElem?_range hi];rfl
theorem ps_pos {n : Nat}{ms : List Int}(hl : ms.length=2 * n) (hm : ∀ m∈ms,0≤m∧m < 10 ^ 30) : ∀ p∈psOf n ms,0≤p.1∧0≤p.2:=fun p hp=>by
 obtain⟨i,hi,rfl⟩:=Ng hp
 have hi:=List.mem_range.mp hi
 exact⟨(Uk hm (xh hl hi)).1,(Uk hm (xi hl hi)).1⟩
noncomputable abbrev szL (ps : List (Int × Int)) : List Int:=(ps.map fun p=>[p.1,p.2]).flatten
theorem sz_len : ∀ ps : List (Int × Int),(szL ps).length=2 * ps.length
 | []=>rfl
 | p :: ps=>by simp only[szL,List.map_cons,List.flatten_cons,List.length_append,List.length_cons,List.length_nil];have:=sz_len ps;simp only[szL] at this;grind
theorem parts_us {hp : Heap}{pvs : List Value}{ps : List (Int × Int)}(p : Paired (Zx hp) pvs ps) : ∃ uss : List (List Value),Paired (fun us v=>Td hp v us) uss pvs∧pI (szL ps) uss.flatten:=by
 induction p with
 | nil=>exact⟨[],.nil,.nil⟩
 | cons x _ ih =>
  obtain⟨a,t,u,e,z⟩:=x
  obtain⟨uss,h1,h2⟩:=ih
  exact⟨_ :: uss,.cons ⟨a,e,z⟩ h1,.cons ⟨t,rfl⟩ (.cons ⟨u,rfl⟩ h2)⟩
theorem pflip {α β : Type}{F : α→β→Prop}{l : List α}{m : List β}(p : Paired F l m) : Paired (fun b a=>F a b) m l:=by
 induction p with
 | nil=>exact .nil
 | cons x _ ih=>exact .cons x ih
theorem w_int {f : Str}{fp pos : Pos}{e : Expr}{m : Int}{t : Tok}{Q : Value→Heap→Prop}(H : Led c env g ns vs as os h) (hf : EV c A env (.Name f fp) g ns vs as os (·=.type "int")) (x : EV c A env e g ns vs as os (·=.str (ds m) t)) (h0 : 0≤m) (h1 : m < 10 ^ 30) (k : ∀ t,Q (.int m t) h)
 (he : autoParam (starEach [e] env=(false,eval e env) :: starEach [] env) zR) : W c A (eval (.Call (.Name f fp) [e] [] pos) env) Q X h:=by
 obtain⟨d1,d2⟩:=ds_int h0 h1
 exact Xo H hf (Zq H x (Zd fun kk=>KIN.call_text (s:=stt c h kk) d1 d2 ⟨⟨rfl,rfl,rfl⟩,k _⟩) he) he
section
variable {L : Addr} {t : Sp} {Q : Flow → Heap → Prop}
theorem law_3 {l rw rs : Addr}{n : Nat}{ms : List Int}{v2 : Option Value}{r2 : List Value}(hA : Rm A 20) (hh : A.handled=none) (hg : g.fo=[]) (h9 : n≤9) (hl : ms.length=2 * n) (hm : ∀ m∈ms,0≤m∧m < 10 ^ 30)
 (H : Led c (eL L) g Y8 [some (.ref l),some (.ref rw),v2,some (.ref rs),none,none,none,none,none,none,none] (LA L) (LO t none none none none none none) h) (z2 : At g.hp rs (.li r2)) (p2 : Paired (X0 g.hp) (rowsOf n ms) r2)
 (cont : ∀ (g' : Bas) (P : Addr) (pvs : List Value) (h' : Heap),g.hp.StaysIn g'.hp→g'.fo=[]→Led c (eL L) g' Y8 [some (.ref l),some (.ref rw),v2,some (.ref rs),none,none,none,none,none,none,none] (LA L) (LO t none none none none none (some (.ref P))) h' →
  At g'.hp P (.li pvs)→Paired (Zx g'.hp) pvs (psOf n ms)→W c A (execs (bL 4) (eL L)) Q noX h') : W c A (execs (bL 3) (eL L)) Q noX h:=by
 have hro : (rowsOf n ms).length=n:=by simp[rowsOf]
 have hrl:=Zu p2
 refine Yg lb3 ?_
 refine Zz ?_
 refine Sh (ns':=["row"]) (cl:=[]) H ?_ ((Za 3 rfl rfl : EV c _ _ _ _ _ _ _ _ _).eq H (Jl H (.fz z2) fun it h1 H1=>?_))
 ·exact⟨dk,by kernel_rfl,dk,by kernel_rfl,dk,dk,dk⟩
 refine LcC.all g (fun i hp v=>Zx hp v (ms.getD (2 * i) 0,ms.getD (2 * i + 1) 0)) (fun i g1 g2 v k p=>p.mono k) (Zt _) rfl (Xk hh) z2 H1 (xj (hrl.symm.trans hro) h9 (by decide)) (fun i g' v h3 E acc l2 hi st2 fs2 hI H4=>?_) fun g' l' h3 acc hl' hR st' fo' H4=>?_
 ·have hin : i < n:=Nat.lt_of_lt_of_eq hi (hrl.symm.trans hro)
  obtain⟨v',ev',⟨a,us,rfl,za,pu⟩⟩:=Yn p2 (T7 hin)
  rw[hI] at ev';cases ev'
  cases pu with
  | cons hu0 pu =>
  cases pu with
  | cons hu1 pu =>
  cases pu with
  | cons hu2 pu =>
  cases pu
  obtain⟨t1,rfl⟩:=hu1
  obtain⟨t2,rfl⟩:=hu2
  have d1:=Uk hm (xh hl hin)
  have d2:=Uk hm (xi hl hin)
  refine Yr (Zi (w_int H4 (Zr (by kernel_rfl) n_int PyProof.Rows.boot_int) (Yc (Za 0 rfl rfl) ev_i (.fz (za.stay st2)) (by decide) (by simp) rfl) d1.1 d1.2 fun t3=>Zi (w_int H4 (Zr (by kernel_rfl) n_int PyProof.Rows.boot_int) (Yc (Za 0 rfl rfl) ev_i (.fz (za.stay st2)) (by decide) (by simp) rfl) d2.1 d2.2 fun t4=>Zd ⟨by rw[sizeLine_eq];simp,?_⟩)))
  obtain⟨g5,k5,f5,H5,z5⟩:=(H4.newT [.int (ms.getD (2 * i) 0) t3,.int (ms.getD (2 * i + 1) 0) t4]).solid
  exact⟨g5,_,k5,f5,H5,_,t3,t4,rfl,z5⟩
 ·obtain⟨g5,k5,f5,H5,z5⟩:=H4.solid
  refine Jh 6 (by rfl) (by rfl) rfl rfl H5 fun h4 H6=>?_
  refine cont g5 acc l' h4 (Zc st' k5) (f5.trans (fo'.trans hg)) H6 z5 ?_
  have : Paired (fun p v=>Zx g5.hp v p) (psOf n ms) l':=Vp (by rw[ps_len];exact hl'.trans (hrl.symm.trans hro)) fun i v x e1 e2=>by
   have hi : i < n:=by have:=(Nf e2).1;rw[ps_len] at this;exact this
   rw[ps_get hi] at e2;cases e2
   exact (hR i v e1).mono k5
  exact pflip this
theorem law_4 {P : Addr}{pvs : List Value}{ps : List (Int × Int)}{v0 v1 v2 v3 : Option Value}(hA : Rm A 20) (hh : A.handled=none) (hg : g.fo=[]) (h9 : ps.length≤9)
 (H : Led c (eL L) g Y8 [v0,v1,v2,v3,none,none,none,none,none,none,none] (LA L) (LO t none none none none none (some (.ref P))) h) (zP : At g.hp P (.li pvs)) (pP : Paired (Zx g.hp) pvs ps)
 (cont : ∀ (g' : Bas) (PL SZ HP : Addr) (plv szv : List Value) (h' : Heap),g.hp.StaysIn g'.hp→g'.fo=[]→At g'.hp PL (.li plv)→pI (Ju ps.length) plv→At g'.hp SZ (.li szv)→pI (szL ps) szv →
  Led c (eL L) g' Y8 [v0,v1,v2,v3,some (.ref PL),some (.ref HP),none,none,none,none,none] (LA L ++ [HP]) (LO t (some (.ref SZ)) none none none none (some (.ref P)) ++ [.li []]) h'→W c A (execs (bL 5) (eL L)) Q noX h') : W c A (execs (bL 4) (eL L)) Q noX h:=by
 have hpl : pvs.length=ps.length:=pP.length
 obtain⟨uss,q1,q2⟩:=parts_us pP
 have hfl : uss.flatten.length=2 * ps.length:=by rw[← Zu q2,sz_len]
 refine Yg lb4 ?_
 refine Vm ?_
 refine Yr (Zi ?_)
 refine Xo H (Zr (by rfl) n_list PyProof.Rows.boot_list) (Zi (w_rangeO H (Zr (by rfl) Jv boot_range) (Uh (Zr (by rfl) Uf boot_len) (Xv (by rfl) (by rfl) (.ld 6 rfl rfl)) (.fz zP) (by exact q6 ‹_› ‹_› (by decide))) fun r t1 t2 t3 h1 H1 hr=>Zd (c_listR hh H1 hr (by exact q6 ‹_› ‹_› (by decide)) fun PL plv h2 p2 H2=>?_)))
 obtain⟨g1,k1,f1,H3,zL⟩:=H2.solid
 refine Zi (w_lc2 (cl:=[]) hh H3 ?_ (Xv (by rfl) (by rfl) (.ld 6 rfl rfl)) (zP.stay k1) (Jm (fun us v x=>x.mono k1) q1) (by lia) fun SZ h3 H4=>?_)
 ·exact⟨dk,by kernel_rfl,dk,by kernel_rfl,dk,dk,dk⟩
 obtain⟨g2,k2,f2,H5,zS⟩:=H4.solid
 refine Zi (Je (Zd ⟨by simp,?_⟩))
 have H6:=H5.newL []
 refine Zd ⟨by rw[sizeLine_eq];simp,?_⟩
 obtain⟨g3,k3,f3,H7,zT⟩:=(H6.newT [.ref PL,.ref SZ,.ref h3.objs.size]).solid
 refine Ss hh H7 (.fz zT) rfl fun h4 H8=>?_
 refine Yi (Yp 4 rfl rfl H8 fun h5 H9=>?_)
 refine Yi (T5 1 (by rfl) (by rfl) rfl rfl H9 fun h6 H10=>?_)
 refine Yi (Yp 5 rfl rfl H10 fun h7 H11=>Ud ?_)
 rw[hpl] at p2
 exact cont g3 PL SZ h3.objs.size plv uss.flatten h7 (Zc k1 (Zc k2 k3)) (f3.trans (f2.trans (f1.trans hg))) (zL.stay (Zc k2 k3)) p2 (zS.stay k3) q2 H11
noncomputable def zK (l : List Int) (i : Nat) : List (Int × Int):=(List.range i).map fun k=>(l.getD k 0,(k : Int))
theorem law_5 {P PL SZ HP : Addr}{szv : List Value}{ms : List Int}{v0 v1 v2 v3 pa : Option Value}(hA : Rm A 20) (hh : A.handled=none) (hg : g.fo=[]) (hl : ms.length < 100) (zS : At g.hp SZ (.li szv)) (pS : pI ms szv)
 (H : Led c (eL L) g Y8 [v0,v1,v2,v3,some (.ref PL),some (.ref HP),none,none,none,none,none] (LA L ++ [HP]) (LO t (some (.ref SZ)) none none none none pa ++ [.li []]) h)
 (cont : ∀ (g' : Bas) (xs : List Value) (vk : Option Value) (h' : Heap),g.hp.StaysIn g'.hp→g'.fo=[]→HpL g'.hp xs (zK ms ms.length) →
  Led c (eL L) g' Y8 [v0,v1,v2,v3,some (.ref PL),some (.ref HP),vk,none,none,none,none] (LA L ++ [HP]) (LO t (some (.ref SZ)) none none none none pa ++ [.li xs]) h'→W c A (execs (bL 6) (eL L)) Q noX h') : W c A (execs (bL 5) (eL L)) Q noX h:=by
 have hsl : ms.length=szv.length:=Zu pS
 refine Yg lb5 ?_
 refine (?_ : SB c _ _ _ _ _ _ _ _ _ _) h H
 refine X9 (fun h'=>Ex3 fun (g' : Bas) (xs : List Value) (vk : Option Value)=>An4 (g.hp.StaysIn g'.hp) (g'.fo=[]) (HpL g'.hp xs (zK ms ms.length)) (Led c (eL L) g' Y8 [v0,v1,v2,v3,some (.ref PL),some (.ref HP),vk,none,none,none,none] (LA L ++ [HP]) (LO t (some (.ref SZ)) none none none none pa ++ [.li xs]) h')) ?_ fun h' q=>by obtain⟨g',xs,vk,q1,q2,q3,H'⟩:=q;exact cont g' xs vk h' q1 q2 q3 H'
 intro F'
 refine fun h' H'=>U7 H' (Zr (by rfl) Jv boot_range) (Uh (Zr (by rfl) Uf boot_len) (Xv (by rfl) (by rfl) (.ld 1 rfl rfl)) (.fz zS) (by exact q7 ‹_› ‹_› (by decide))) (yd _) (s9 (S5 (S9 hsl.symm) hl) (by decide)) fun it h'' H''=>?_
 refine⟨it,szv.length,fun i=>.itR (0 + i) (szv.length - i) 1,fun i v=>isI (0 + i) v,fun o_=>True,fun i g' vs' as' os'=>Ex2 fun (xs : List Value) (vk : Option Value)=>An6 (g.hp.StaysIn g'.hp) (g'.fo=[]) (HpL g'.hp xs (zK ms i)) (vs'=[v0,v1,v2,v3,some (.ref PL),some (.ref HP),vk,none,none,none,none]) (as'=LA L ++ [HP]) (os'=LO t (some (.ref SZ)) none none none none pa ++ [.li xs]),rfl,J4 hh,⟨_,_,_,_,⟨[],none,Zt _,hg,HpL.nil _,rfl,rfl,rfl⟩,H''⟩,fun o_ o_ o_ o_ o_ o_=>trivial,?_,?_⟩
 ·rintro J' i QL g' o_ o_ o_ v h₃ hi ⟨xs,vk,j1,j2,j3,rfl,rfl,rfl⟩ hv H3
  refine H3.lv ?_
  clear H3
  intro vl H3
  obtain⟨t',rfl⟩ : isI i v:=by simpa using hv
  have him : i < ms.length:=by exact q9 ‹_› ‹_›
  have hq : ms[i]?=some (ms.getD i 0):=by rw[List.getD_eq_getElem?_getD,Nc him];rfl
  obtain⟨w,ew,⟨tw,rfl⟩⟩:=Yn pS hq
  have lE:=j3.len
  have lE' : (zK ms i).length=i:=by simp[zK]
  refine Yp 6 rfl rfl H3 fun h4 H4=>?_
  refine Yj (Yl H4 (Xm (by rfl) n_pu) k_pu (Zq H4 (Za 5 rfl rfl) (Zi (Yr (Zq H4 (Yc (Xv (by rfl) (by rfl) (.ld 1 rfl rfl)) (Zj 6 rfl rfl) (.fz (zS.stay j1)) (by with_reducible exact Int.natCast_nonneg _) (by exact q7 ‹_› ‹_› (by decide)) (by rw[Int.toNat_natCast];exact ew)) (Zq H4 (Za 6 rfl rfl) (Zd ⟨by rw[sizeLine_eq];simp,Zd ?_⟩)))))))
  obtain⟨gg,r1,r2,H5,r4,r5⟩:=(H4.newT [.int (ms.getD i 0) tw,.int i t']).key
  refine⟨H5.kin,?_⟩
  have j3':=j3.mono r1
  refine Zh (Ug (j:=7) (hA.mono (by decide)) H5 rfl rfl j3'.isk r4 (ya (S9 (lE.trans lE')) (S8 him hl) (by decide))) ?_ (fun o_ o_ q=>q.elim)
  rintro o_ h6 ⟨-,H6⟩
  refine fun kk=>wpAny_execs_nil ⟨⟨rfl,rfl,rfl⟩,?_⟩
  refine⟨gg,_,_,_,⟨_,_,Zc j1 r1,r2.trans j2,?_,rfl,rfl,rfl⟩,H6⟩
  have e : zK ms (i + 1)=zK ms i ++ [(ms.getD i 0,(i : Int))]:=by unfold zK;rw[List.range_succ,List.map_append];rfl
  rw[e,← r5];exact j3'.push r4
 ·rintro g' o_ o_ o_ h₃ ⟨xs,vk,j1,j2,j3,rfl,rfl,rfl⟩ H3
  exact⟨g',xs,vk,j1,j2,hsl ▸ j3,H3⟩
end
theorem Tc {α : Type}{R : α→α→Prop}(anti : ∀ a b,R a b→R b a→a=b) {l m : List α}(hp : l.Perm m) (h1 : l.Pairwise R) (h2 : m.Pairwise R) : l=m:=by
 induction l generalizing m with
 | nil=>exact hp.nil_eq
 | cons a l ih=>cases m with
  | nil=>cases hp.symm.nil_eq
  | cons b m =>
   have p1:=List.pairwise_cons.mp h1
   have p2:=List.pairwise_cons.mp h2
   have e : a=b:=by
    rcases List.mem_cons.mp (hp.mem_iff.mp (.head l)) with q | q
    ·exact q
    ·rcases List.mem_cons.mp (hp.mem_iff.mpr (.head m)) with q' | q'
     ·exact q'.symm
     ·exact anti _ _ (p1.1 b q') (p2.1 a q)
   subst e
   rw[ih hp.cons_inv p1.2 p2.2]
theorem kle_anti (a b : Int × Int) (h1 : le KLt a b) (h2 : le KLt b a) : a=b:=by
 unfold le KLt lt2 at h1 h2
 simp only[Bool.or_eq_false_iff,Bool.and_eq_false_iff,decide_eq_false_iff_not,beq_eq_false_iff_ne] at h1 h2
 obtain⟨x,i⟩:=a
 obtain⟨y,j⟩:=b
 simp only at h1 h2
 have e : x=y:=Int.le_antisymm (Int.not_lt.mp h1.1) (Int.not_lt.mp h2.1)
 subst e
 have : i=j:=by rcases h1.2 with h | h <;> rcases h2.2 with h' | h' <;> first | exact absurd rfl h | exact absurd rfl h' | exact Int.le_antisymm (Int.not_lt.mp h) (Int.not_lt.mp h')
 rw[this]
theorem zip_upto (kz : List Int) (vs : List Value) (j : Nat) (h : IntsAre vs ((List.range' j kz.length).map fun i : Nat=>(i : Int))) : (kz.zip vs).map (fun p=>(p.1,numOf p.2))=(List.range' j kz.length).zipWith (fun (i : Nat) k=>(k,(i : Int))) kz:=by
 induction kz generalizing vs j with
 | nil=>rfl
 | cons k kz ih =>
  rw[List.length_cons,List.range'_succ,List.map_cons] at h
  cases h with
  | cons n t h' =>
   rw[List.length_cons,List.range'_succ,List.zip_cons_cons,List.map_cons,List.zipWith_cons_cons,ih _ (j + 1) h'];rfl
theorem zK_zip (kz : List Int) : zK kz kz.length=(List.range' 0 kz.length).zipWith (fun (i : Nat) k=>(k,(i : Int))) kz:=by
 refine List.ext_getElem (by simp[zK]) fun i h1 h2=>?_
 have hi : i < kz.length:=by simpa [zK] using h1
 simp[zK,hi]
theorem st_ints {kz : List Int}{vs out : List Value}(hv : IntsAre vs (Ju kz.length)) (h : Tz kz vs out) : ∃ ns,pI ns out∧∀ ks : List (Int × Int),ks.Perm (zK kz kz.length)→ks.Pairwise (le KLt)→ks.map (·.2)=ns:=by
 obtain⟨ps,h1,rfl,h3⟩:=h
 have hr : Ju kz.length=(List.range' 0 kz.length).map fun i : Nat=>(i : Int):=by rw[← List.range_eq_range']
 rw[hr] at hv
 have hz:=zip_upto kz vs 0 hv
 refine⟨(ps.map Prod.snd).map numOf,pI.of (intsAre_map _ fun v hv'=>?_),fun ks k1 k2=>?_⟩
 ·obtain⟨p,hp,rfl⟩:=Ng hv'
  exact hv.all _ (List.of_mem_zip (show (p.1,p.2)∈kz.zip vs from h1.mem_iff.mp hp)).2
 ·have e1 : (ps.map fun p=>(p.1,numOf p.2)).Perm (zK kz kz.length):=by rw[zK_zip,← hz];exact h1.map _
  have e2 : (ps.map fun p=>(p.1,numOf p.2)).Pairwise (le KLt):=by
   rw[List.pairwise_map]
   refine h3.imp fun {p q} hpq=>?_
   unfold le KLt lt2
   simp only[Bool.or_eq_false_iff,Bool.and_eq_false_iff,decide_eq_false_iff_not,beq_eq_false_iff_ne]
   rcases hpq with h | ⟨h,h'⟩
   ·exact⟨Int.lt_asymm h,.inl (Int.ne_of_gt h)⟩
   ·exact⟨fun z=>Int.lt_irrefl _ (h ▸ z),.inr (Int.lt_asymm h')⟩
  rw[Tc kle_anti (k1.trans e1.symm) k2 e2,List.map_map,List.map_map];rfl
theorem w_rangeF {f : Str}{fp pos : Pos}{e2 : Expr}{b : Int}{Q : Value→Heap→Prop}(H : Led c env g ns vs as os h) (hf : EV c A env (.Name f fp) g ns vs as os (·=.type "range")) (x2 : EV c A env e2 g ns vs as os (isI b))
 (k : ∀ r t u v h' (g' : Bas),g.hp.StaysIn g'.hp→g'.fo=g.fo→Led c env g' ns vs as os h'→(∀ h : Heap,g'.hp.StaysIn h→IsRange h r 0 b 1 t u v)→Q (.ref r) h')
 (he2 : autoParam (starEach [e2] env=(false,eval e2 env) :: starEach [] env) zR) : W c A (eval (.Call (.Name f fp) [e2] [] pos) env) Q X h:=by
 refine Xo H hf (Y7 H x2 (fun u=>Zd fun kk=>?_) he2) he2 rfl
 refine call_range_1 (s:=stt c h kk) ⟨⟨rfl,rfl,rfl⟩,?_⟩
 obtain⟨g',k1,f1,H',o,z1,z2⟩:=(H.alloc (sp:=.pr fun o=>∀ h' : Heap,h'.get? h.objs.size=some o→IsRange h' h.objs.size 0 b 1 kk u (kk + 1)) rfl (fun h' e=>e)).solid
 exact k _ _ _ _ _ g' k1 f1 H' fun h' st=>z2 h' (st _ _ z1)
theorem w_callbKW {f n : Str}{fp pos kp : Pos}{e ke : Expr}{id : String}{Q : Value→Heap→Prop}(H : Led c env g ns vs as os h) (hf : EV c A env (.Name f fp) g ns vs as os (·=.builtin id))
 (x : WS c A env [e] pos (fun l h'=>W c A (eval ke env) (fun kv h''=>W c A (call (.builtin id) l [(n,kv)]) Q X h'') X h') X h)
 (he : autoParam (starEach [e] env=(false,eval e env) :: starEach [] env) zR) :
 W c A (eval (.Call (.Name f fp) [e] [⟨some n,ke,kp⟩] pos) env) Q X h:=fun k =>
 wpAny_Call_Name_kw (wpAny_mono (hf h H k) (fun v s1 q=>by
  rw[q.1.eq,q.2.1,q.2.2]
  refine callWith_kw (wpAny_mono (x _) (fun l s2 q2=>?_) fun o_ o_ q=>q) (by rw[he];rfl) (by rw[he];rfl)
  refine wpAny_evalAll_cons (wpAny_bind (wpAny_mono (Zy q2.2 q2.1) (fun kv s3 q3=>wpAny_bind (wpAny_standAt (wpAny_pure (wpAny_evalAll_nil ?_)))) fun o_ o_ q=>q))
  exact Zy q3.2 q3.1) fun o_ o_ q=>⟨q.1,q.2.elim⟩)
theorem hd6 (P : Params) : codeHdIn (K P) 908 906=true:=by kernel_rfl
section
variable {L : Addr} {t : Sp} {Q : Flow → Heap → Prop}
theorem law_6 {PL SZ HP : Addr}{szv xs : List Value}{ms : List Int}{v0 v1 v2 v3 vk pa : Option Value}{mg : Str→Option Value}(hA : Rm A 20) (hh : A.handled=none) (FA : FR A [L]) (hg : g.fo=[]) (hmg : c.b.Ns mainGlobals mg) (hbm : c.b.BuiltinsAt mg 906)
 (h2 : 2≤ms.length) (hl : ms.length < 60) (zS : At g.hp SZ (.li szv)) (pS : pI ms szv) (hx : HpL g.hp xs (zK ms ms.length))
 (H : Led c (eL L) g Y8 [v0,v1,v2,v3,some (.ref PL),some (.ref HP),vk,none,none,none,none] (LA L ++ [HP]) (LO (.ob (tabObj #[])) (some (.ref SZ)) none none none none pa ++ [.li xs]) h)
 (cont : ∀ (g' : Bas) (h' : Heap),g.hp.StaysIn g'.hp→g'.fo=[] →
  Led c (eL L) g' Y8 [v0,v1,v2,v3,some (.ref PL),some (.ref HP),vk,none,none,none,none] (LA L) (LO tS (some (.ref SZ)) none none none none pa) h'→W c A (execs (bL 7) (eL L)) Q noX h') : W c A (execs (bL 6) (eL L)) Q noX h:=by
 have hsl : ms.length=szv.length:=Zu pS
 have hxl:=hx.len
 have hzl : (zK ms ms.length).length=ms.length:=by simp[zK]
 refine Yg lb6 ?_
 refine Uq (Yx ?_)
 refine Yl H (Xm (by rfl) n_em) k_em (Zq H (Za 5 rfl rfl) (Zd ⟨H.kin,Zh (V3 (j:=7) (hA.mono (by decide)) hh (by rw[Vu hg];exact FA) H rfl rfl hx.isk (ya (S9 (hx.len.trans hzl)) hl (by decide)) hx.heap) ?_ (fun o_ o_ q=>q)⟩))
 rintro o_ h1 ⟨qs,us,a,rfl,b1,b2,b3,H1⟩
 obtain⟨g1,k1,f1,H2,za⟩:=H1.solid
 have H3 : Led c (eL L) g1 Y8 [v0,v1,v2,v3,some (.ref PL),some (.ref HP),vk,none,none,none,none] (LA L) (LO (.ob (tabObj #[])) (some (.ref SZ)) none none none none pa) h1:=H2.take 7
 clear H2 H1
 refine w_callbKW H3 (Zr (by rfl) Sj PyProof.Rows.boot_sorted) (Zi (w_rangeF H3 (Zr (by rfl) Jv boot_range) (Uh (Zr (by rfl) Uf boot_len) (Xv (by rfl) (by rfl) (.ld 1 rfl rfl)) (.fz (zS.stay k1)) (by exact q7 ‹_› ‹_› (by decide))) fun r t1 t2 t3 h3 g3 k3 f3 H4 hr=>Zd ?_))
 refine w_lam (T:=906) (clos:=[("sizes",L + 6)]) (j:=0) H4 rfl rfl trivial rfl rfl hd6 (by kernel_rfl) hmg hbm (by decide) rfl fun f c' ctv pm h4 g4 k4 f4 H5 zf hcr=>?_
 have zS4:=(zS.stay k1).stay (Zc k3 k4)
 intro kk
 refine sk_sorted (s:=stt c h4 kk) (n:=szv.length) (kz:=ms) hh (hr _ (Zc k4 H5.keep)) (small_one (by decide) (by decide) (yd _) (s9 (S5 (S9 hsl.symm) hl) (by decide))) rs_one (by exact r1 ‹_› ‹_›) (by exact q7 ‹_› ‹_› (by decide)) hsl (fun i t k hk h5 tk hkeep=>?_) fun D h5 tk vs out cc hkeep hD hDn hv hst=>⟨⟨rfl,rfl,rfl⟩,?_⟩
 ·obtain⟨w,ew,⟨tw,rfl⟩⟩:=Yn pS hk
  have hw : W c A.in1.in1 (call (.ref f) [.int i t]) (fun v h'=>isI k v∧∀ b o,h5.get? b=some o→h'.get? b=some o) noX h5:=by
   refine w_lamcall (x:="k") (show A.depth < recursionLimit from hA.depth) (H5.grow hkeep) zf hcr (by kernel_rfl) dk dk (by kernel_rfl) (by decide) (by kernel_rfl) (by kernel_rfl) fun L' h6 kp6 H6=>?_
   have st:=(H5.grow hkeep).stay
   exact (Yc (v:=.int k tw) (ev_f (by kernel_rfl) (by rfl) (.ld 1 rfl rfl)) (Zj 0 rfl rfl) (.fz (zS4.stay st)) (by with_reducible exact Int.natCast_nonneg _) (by exact q7 ‹_› ‹_› (by decide)) (by rw[Int.toNat_natCast];exact ew) : EV c _ _ _ _ _ _ _ _ _).run H6 fun v e=>⟨⟨tw,e⟩,kp6⟩
  refine wpAny_mono (hw tk) (fun v s' q=>?_) fun o_ o_ q=>q.2.elim
  obtain⟨o1,⟨t',rfl⟩,kp⟩:=q
  exact⟨s'.heap,s'.toks,t',o1.eq,rfl,kp⟩
 ·have H6:=H5.born hkeep hDn (sp:=.li out.toList) ⟨_,hD,cc,by rw[Array.toArray_toList]⟩
  rw[← hsl] at hv
  obtain⟨n2,p2,e2⟩:=st_ints hv hst
  have p1 : pI (qs.map fun p=>(key g.hp p).2) us:=pmapL (fun p=>(key g.hp p).2) b3
  have e1:=e2 (qs.map (key g.hp)) ((b1.map _).trans hx.perm) (by rw[List.pairwise_map];exact b2)
  rw[List.map_map] at e1
  have e1 : (qs.map fun p=>(key g.hp p).2)=n2:=e1
  rw[e1] at p1
  refine c_neI (hA.mono (by decide)) H6 (.fz (za.stay (Zc k3 k4))) (.ld 7 rfl rfl) p1 p2 (Yb ?_)
  rw[decide_eq_true rfl]
  simp only[Bool.not_true,Bool.false_eq_true,if_false]
  refine fun kk=>wpAny_execs_nil ⟨⟨rfl,rfl,rfl⟩,?_⟩
  exact cont g4 _ (Zc k1 (Zc k3 k4)) (f4.trans (f3.trans (f1.trans hg))) (H6.take 7)
end
theorem Tq (m : Nat) : ∀ i∈Ju m,0≤i∧i.toNat < m:=fun i hi=>by
 obtain⟨k,hk,rfl⟩:=Ng hi
 have:=List.mem_range.mp hk
 exact⟨by with_reducible exact Int.natCast_nonneg _,by assumption⟩
theorem upto_nd (m : Nat) : (Ju m).Nodup:=by
 unfold Ju List.Nodup
 rw[List.pairwise_map]
 exact List.nodup_range.imp fun hne e=>hne (by lia)
theorem upto_le (m : Nat) : (Ju m).Pairwise (·≤·):=by
 unfold Ju
 rw[List.pairwise_map]
 exact List.pairwise_lt_range.imp fun h=>by lia
theorem el_perm (ps : List (Int × Int)) (m : Nat) (h : m≤ps.length) : ((Ui ps m ++ Vr ps m).map (·.2)).Perm (Ju m):=by
 induction m with
 | zero=>exact .refl _
 | succ m ih =>
  have hq : ps[m]?=some ps[m]:=Nc h
  have ih:=ih (Nat.le_of_succ_le h)
  have e : Ju (m + 1)=Ju m ++ [(m : Int)]:=by unfold Ju;rw[List.range_succ,List.map_append];rfl
  rw[Ua hq,Uu hq,e]
  by_cases hd : ps[m].1 < ps[m].2
  ·rw[if_pos hd,if_pos hd,List.append_nil,List.append_assoc,List.map_append,List.map_append]
   refine List.Perm.trans ?_ (List.Perm.append_right _ ih)
   rw[List.map_append,List.append_assoc]
   exact List.Perm.append_left _ List.perm_append_comm
  ·rw[if_neg hd,if_neg hd,List.append_nil,← List.append_assoc,List.map_append]
   exact List.Perm.append_right _ ih
theorem Mu {ps : List (Int × Int)}{ord : List Int}(h : Jk ps ord) : ord.Perm (Ju ps.length):=by
 obtain⟨E,T,h1,o_,h3,o_,rfl⟩:=h
 exact ((h1.append h3).map _).trans (el_perm ps ps.length (Nat.le_refl _))
theorem early_mem {ps : List (Int × Int)}{m : Nat}(h : m≤ps.length) (p : Int × Int) (hp : p∈Ui ps m) : 0≤p.2∧p.1=(ps.getD p.2.toNat (0,0)).1∧(ps.getD p.2.toNat (0,0)).1 < (ps.getD p.2.toNat (0,0)).2:=by
 induction m with
 | zero=>cases hp
 | succ m ih =>
  have hq : ps[m]?=some ps[m]:=Nc h
  rw[Ua hq] at hp
  rcases Nh hp with hp | hp
  ·exact ih (Nat.le_of_succ_le h) hp
  ·by_cases hd : ps[m].1 < ps[m].2
   ·rw[if_pos hd,List.mem_singleton] at hp;subst hp
    simp only[Int.toNat_natCast,List.getD_eq_getElem?_getD,hq,Option.getD_some]
    exact⟨Int.natCast_nonneg _,trivial,hd⟩
   ·rw[if_neg hd] at hp;cases hp
theorem late_mem {ps : List (Int × Int)}{m : Nat}(h : m≤ps.length) (p : Int × Int) (hp : p∈Vr ps m) : 0≤p.2∧p.1=-(ps.getD p.2.toNat (0,0)).2∧(ps.getD p.2.toNat (0,0)).2≤(ps.getD p.2.toNat (0,0)).1:=by
 induction m with
 | zero=>cases hp
 | succ m ih =>
  have hq : ps[m]?=some ps[m]:=Nc h
  rw[Uu hq] at hp
  rcases Nh hp with hp | hp
  ·exact ih (Nat.le_of_succ_le h) hp
  ·by_cases hd : ps[m].1 < ps[m].2
   ·rw[if_pos hd] at hp;cases hp
   ·rw[if_neg hd,List.mem_singleton] at hp;subst hp
    simp only[Int.toNat_natCast,List.getD_eq_getElem?_getD,hq,Option.getD_some]
    exact⟨Int.natCast_nonneg _,trivial,Int.not_lt.mp hd⟩
theorem kle1 {p q : Int × Int}(h : le KLt p q) : p.1≤q.1:=by
 unfold le KLt lt2 at h
 exact Int.not_lt.mp (of_decide_eq_false (Bool.or_eq_false_iff.mp h).1)
theorem jo_pair {ps : List (Int × Int)}{ord : List Int}(h : Jk ps ord) : (oq ps ord).Pairwise jR:=by
 obtain⟨E,T,h1,h2,h3,h4,rfl⟩:=h
 unfold oq
 rw[List.map_map,List.map_append,List.pairwise_append,List.pairwise_map,List.pairwise_map]
 have mE:=fun p (hp : p∈E)=>early_mem (Nat.le_refl ps.length) p (h1.mem_iff.mp hp)
 have mT:=fun p (hp : p∈T)=>late_mem (Nat.le_refl ps.length) p (h3.mem_iff.mp hp)
 refine⟨h2.imp_of_mem fun {p q} hp hq hr=>?_,h4.imp_of_mem fun {p q} hp hq hr=>?_,?_⟩
 ·have a:=mE p hp;have b:=mE q hq;have d:=kle1 hr
  exact jj' (.inl ⟨Nb (Int.le_of_eq a.2.1.symm) (Nb d (Int.le_of_eq b.2.1)),Int.le_of_lt a.2.2⟩)
 ·have a:=mT p hp;have b:=mT q hq;have d:=kle1 hr
  exact jj' (.inr ⟨b.2.2,Int.le_of_neg_le_neg (Nb (Int.le_of_eq a.2.1.symm) (Nb d (Int.le_of_eq b.2.1)))⟩)
 ·intro x hx y hy
  obtain⟨p,hp,rfl⟩:=Ng hx
  obtain⟨q,hq,rfl⟩:=Ng hy
  have a:=mE p hp;have b:=mT q hq
  exact Int.le_min.mpr ⟨Nb (Int.min_le_right ..) b.2.2,Nb (Int.min_le_left ..) (Int.le_of_lt a.2.2)⟩
theorem EB_jf (q : List (Int × Int)) (i : Nat) (h : i≤q.length) : EB q i=jf (0,0) (q.take i):=by
 induction i with
 | zero=>rfl
 | succ i ih =>
  have hq : q[i]?=some q[i]:=Nc h
  rw[List.take_add_one,hq,Option.toList_some,jf_snoc,← ih (Nat.le_of_succ_le h)]
  show max (EA q (i + 1)) (EB q i) + (q.getD i (0,0)).2=_
  rw[EA_succ h,List.getD_eq_getElem?_getD,hq,Option.getD_some];rfl
theorem oq_len (ps : List (Int × Int)) (ord : List Int) : (oq ps ord).length=ord.length:=by simp[oq]
theorem EB_full (ps : List (Int × Int)) (ord : List Int) : EB (oq ps ord) ord.length=jf (0,0) (oq ps ord):=by
 rw[EB_jf _ _ (by rw[oq_len];exact Nat.le_refl _),List.take_of_length_le (by rw[oq_len];exact Nat.le_refl _)]
theorem Sa (ps : List (Int × Int)) (ord : List Int) : oq ps ord=jq ps (ord.map Int.toNat):=by unfold oq jq;rw[List.map_map];rfl
theorem Sk {ord : List Int}{n : Nat}(h : ord.Perm (Ju n)) : (ord.map Int.toNat).Perm (List.range n):=by
 have:=h.map Int.toNat
 unfold Ju at this
 rw[List.map_map] at this
 rwa [show (Int.toNat ∘ fun i : Nat=>(i : Int))=id from funext fun i=>Int.toNat_natCast i,List.map_id] at this
theorem jq_sw (ps : List (Int × Int)) (o : List Nat) : jq (ps.map sw) o=(jq ps o).map sw:=by
 unfold jq
 rw[List.map_map]
 refine List.map_congr_left fun i o_=>?_
 simp only[Function.comp,List.getD_eq_getElem?_getD,List.getElem?_map]
 cases ps[i]? <;> rfl
theorem jq_mem {ps : List (Int × Int)}(hp : ∀ p∈ps,0≤p.1∧0≤p.2) (o : List Nat) : ∀ x∈jq ps o,0≤x.1∧0≤x.2:=fun x hx=>by
 obtain⟨i,o_,rfl⟩:=Ng hx
 rw[List.getD_eq_getElem?_getD]
 cases q : ps[i]? with
 | none=>simp
 | some p=>exact hp p (Nd q)
theorem mirror_eq {ps : List (Int × Int)}{o o' : List Nat}(hne : ps≠[]) (hp : ∀ p∈ps,0≤p.1∧0≤p.2) (h1 : o.Perm (List.range ps.length)) (h2 : (jq ps o).Pairwise jR) (h3 : o'.Perm (List.range ps.length)) (h4 : (jq (ps.map sw) o').Pairwise jR) : jf (0,0) (jq (ps.map sw) o')=jf (0,0) (jq ps o):=by
 have ne : ∀ {x : List Nat}{qs : List (Int × Int)},x.Perm (List.range ps.length)→jq qs x≠[]:=fun {x qs} hx q=>by
  have:=congrArg List.length q
  unfold jq at this
  rw[List.length_map,hx.length_eq,List.length_range] at this
  exact hne (List.length_eq_zero_iff.mp this)
 have hsw : ∀ l : List (Int × Int),(l.map sw).map sw=l:=fun l=>by rw[List.map_map];exact (List.map_congr_left fun o_ o_=>rfl).trans (List.map_id l)
 have a1 : jf (0,0) (jq ps o)≤jf (0,0) (jq (ps.map sw) o'):=by
  have e:=jf_mirror (l:=(jq ps o').map sw) (by have:=ne (qs:=ps) h3;simpa using this) (fun x hx=>by
   obtain⟨y,hy,rfl⟩:=Ng hx
   exact (jq_mem hp o' y hy).symm)
  rw[hsw] at e
  rw[jq_sw,← e]
  exact Tl h2 ((List.reverse_perm _).trans ((h3.trans h1.symm).map _))
 have a2 : jf (0,0) (jq (ps.map sw) o')≤jf (0,0) (jq ps o):=by
  have e:=jf_mirror (l:=jq ps o) (ne h1) (jq_mem hp o)
  rw[← e]
  refine Tl h4 ((List.reverse_perm _).trans ?_)
  rw[jq_sw]
  exact ((h1.trans h3.symm).map _).map _
 lia
theorem le_anti (a b : Int) (h : a≤b) (k : b≤a) : a=b:=Int.le_antisymm h k
section
variable {L : Addr} {t : Sp} {Q : Flow → Heap → Prop}
theorem law_7 {P PL : Addr}{pvs : List Value}{ps : List (Int × Int)}{v0 v1 v2 v3 v5 v6 sz : Option Value}(hA : Rm A 20) (hh : A.handled=none) (FA : FR A [L]) (hg : g.fo=[]) (h9 : ps.length≤9) (zP : At g.hp P (.li pvs)) (pP : Paired (Zx g.hp) pvs ps)
 (H : Led c (eL L) g Y8 [v0,v1,v2,v3,some (.ref PL),v5,v6,none,none,none,none] (LA L) (LO t sz none none none none (some (.ref P))) h)
 (cont : ∀ (g' : Bas) (O : Addr) (ord : List Int) (ovs : List Value) (h' : Heap),g.hp.StaysIn g'.hp→g'.fo=[]→Jk ps ord→At g'.hp O (.li ovs)→pI ord ovs →
  Led c (eL L) g' Y8 [v0,v1,v2,v3,some (.ref PL),v5,v6,none,none,none,none] (LA L) (LO t sz none none none (some (.ref O)) (some (.ref P))) h'→W c A (execs (bL 8) (eL L)) Q noX h') : W c A (execs (bL 7) (eL L)) Q noX h:=by
 refine Yg lb7 ?_
 refine Zz ?_
 refine Yl H (Xm (by rfl) n_ord) k_ord (Zq H (Xv (by rfl) (by rfl) (.ld 6 rfl rfl)) (Zd ⟨H.kin,Zh (order_ok (hA.mono (by decide)) hh (by rw[Vu hg];exact FA) H zP pP (by exact q2 ‹_› (by decide))) ?_ fun o_ o_ q=>q⟩))
 rintro o_ h1 ⟨ord,us,a,rfl,hJ,po,H1⟩
 obtain⟨g1,k1,f1,H2,za⟩:=H1.solid
 refine Jh 5 (by rfl) (by rfl) rfl rfl H2 fun h2 H3=>?_
 exact cont g1 a ord us h2 k1 (f1.trans hg) hJ za po H3
theorem law_8 {O PL : Addr}{ovs plv : List Value}{ps : List (Int × Int)}{ord : List Int}{v0 v1 v2 v3 v5 v6 sz pa : Option Value}(hA : Rm A 20) (hg : g.fo=[]) (h9 : ps.length≤9) (hJ : Jk ps ord) (zO : At g.hp O (.li ovs)) (pO : pI ord ovs) (zL : At g.hp PL (.li plv)) (pL : pI (Ju ps.length) plv)
 (H : Led c (eL L) g Y8 [v0,v1,v2,v3,some (.ref PL),v5,v6,none,none,none,none] (LA L) (LO t sz none none none (some (.ref O)) pa) h)
 (cont : ∀ h',Led c (eL L) g Y8 [v0,v1,v2,v3,some (.ref PL),v5,v6,none,none,none,none] (LA L) (LO t sz none none none (some (.ref O)) pa) h'→W c A (execs (bL 9) (eL L)) Q noX h') : W c A (execs (bL 8) (eL L)) Q noX h:=by
 have hp:=Mu hJ
 have hl : ord.length=ps.length:=by rw[hp.length_eq];simp
 refine Yg lb8 ?_
 refine Uq (Yx ?_)
 refine Xj H (Zr (by rfl) Sj PyProof.Rows.boot_sorted) (Zq H (Xv (by rfl) (by rfl) (.ld 5 rfl rfl)) (Zd (c_sorted H (.fz zO) pO (by exact q6 ‹_› ‹_› (by decide)) fun D ms' us' h1 p1 q1 s1 H1=>?_)))
 refine (Za 4 rfl rfl : EV c _ _ _ _ _ _ _ _ _).eq H1 (c_neI (hA.mono (by decide)) H1 (.ld 7 rfl rfl) (.fz zL) p1 pL (Yb ?_))
 rw[decide_eq_true (Tc le_anti (q1.trans hp) s1 (upto_le _))]
 simp only[Bool.not_true,Bool.false_eq_true,if_false]
 exact fun kk=>wpAny_execs_nil ⟨⟨rfl,rfl,rfl⟩,cont h1 (H1.take 7)⟩
theorem law_9 {O P PL : Addr}{ovs pvs : List Value}{ps : List (Int × Int)}{ord : List Int}{v0 v1 v2 v3 v5 v6 sz : Option Value}(hA : Rm A 20) (hh : A.handled=none) (FA : FR A [L]) (hg : g.fo=[]) (h5 : 5≤ps.length) (h9 : ps.length≤9) (hpos : ∀ p∈ps,0≤p.1∧0≤p.2) (hJ : Jk ps ord) (zO : At g.hp O (.li ovs)) (pO : pI ord ovs) (zP : At g.hp P (.li pvs)) (pP : Paired (Zx g.hp) pvs ps)
 (H : Led c (eL L) g Y8 [v0,v1,v2,v3,some (.ref PL),v5,v6,none,none,none,none] (LA L) (LO t sz none none none (some (.ref O)) (some (.ref P))) h)
 (cont : ∀ tw h',Led c (eL L) g Y8 [v0,v1,v2,v3,some (.ref PL),v5,v6,some (.int (jf (0,0) (oq ps ord)) tw),none,none,none] (LA L) (LO t sz none none none (some (.ref O)) (some (.ref P))) h'→W c A (execs (bL 10) (eL L)) Q noX h') : W c A (execs (bL 9) (eL L)) Q noX h:=by
 have hp:=Mu hJ
 have hl : ord.length=ps.length:=by rw[hp.length_eq];simp
 refine Yg lb9 ?_
 refine Zz ?_
 refine Yl H (Xm (by rfl) n_clk) k_clk (Zq H (Xv (by rfl) (by rfl) (.ld 5 rfl rfl)) (Zq H (Xv (by rfl) (by rfl) (.ld 6 rfl rfl)) (Zd ⟨H.kin,Zh (clock_ok (hA.mono (by decide)) hh (by rw[Vu hg];exact FA) H zO pO (hp.nodup_iff.mpr (upto_nd _)) (by lia) (by exact q6 ‹_› ‹_› (by decide)) zP pP (fun i hi=>Tq _ i (hp.mem_iff.mp hi)) hpos (by exact q2 ‹_› (by decide))) ?_ fun o_ o_ q=>q⟩)))
 rintro o_ h1 ⟨⟨tw,rfl⟩,H1⟩
 rw[EB_full]
 exact Zp 7 rfl rfl H1 fun h2 H2=>cont tw h2 H2
end
theorem pI_get {ms : List Int}{us : List Value}(p : pI ms us) {i : Nat}{v : Value}(e : us[i]?=some v) : ∃ m t,ms[i]?=some m∧v=.int m t:=by
 have hl:=Zu p
 have hi : i < ms.length:=by rw[hl];exact Zn e
 obtain⟨w,ew,t,rfl⟩:=Yn p (Nc hi)
 rw[e] at ew;cases ew
 exact⟨_,t,Nc hi,rfl⟩
theorem w_mapLc {cpos xp : Pos}{elt iter : Expr}{x : Str}{scope : Scope}{cl : List (Str × Addr)}{Q : Value→Heap→Prop}{is : List Int}{F : Int→Int}(hh : A.handled=none) (H : Led c env g ns vs as os h) (L : LcK scope cl env [x])
 (hit : W c A (eval iter env) (fun v h'=>Ex3 fun (g' : Bas) (r : Addr) (us : List Value)=>An6 (v=.ref r) (g.hp.StaysIn g'.hp) (g'.fo=g.fo) (At g'.hp r (.li us)) (pI is us) (Led c env g' ns vs as os h')) X h) (hz : is.length < 1000)
 (hel : ∀ (i : Nat) (m : Int),is[i]?=some m→∀ (g' : Bas) t E a1 a2 o1 o2 h',g.hp.StaysIn g'.hp→g'.fs=env.locals :: g.fs→Led c (Y1 scope cl E env) g' [x] [some (.int m t)] (as ++ [a1] ++ [a2]) (os ++ [o1] ++ [o2]) h' →
  W c A (eval elt (Y1 scope cl E env)) (fun v h₃=>Ex2 fun g'' w=>An4 (g'.hp.StaysIn g''.hp) (g''.fo=g'.fo) (Led c (Y1 scope cl E env) g'' [x] [w] (as ++ [a1] ++ [a2]) (os ++ [o1] ++ [o2]) h₃) (isI (F m) v)) noX h')
 (k : ∀ (g' : Bas) r us h',g.hp.StaysIn g'.hp→g'.fo=g.fo→pI (is.map F) us→Led c env g' ns vs (as ++ [r]) (os ++ [.li us]) h'→Q (.ref r) h')
 (hs : autoParam (∀ x,foldedSetIterable iter env x=pure x) zI) : W c A (eval (.ListComp elt [⟨.Name x xp,iter,[],0⟩] scope cpos) env) Q X h:=by
 refine Sh H L (Zh hit (fun v h1 q=>?_) fun o_ o_ q=>q) hs
 obtain⟨g1,r,us,rfl,k1,f1,z1,p1,H1⟩:=q
 have hul:=Zu p1
 refine Jl H1 (.fz z1) fun it h2 H2=>?_
 refine LcC.all g1 (fun i o_ v=>isI (F (is.getD i 0)) v) (fun o_ o_ o_ o_ o_ x=>x) k1 f1 (Xk hh) z1 H2 (by exact q7 ‹_› ‹_› (by decide)) (fun i g' v h3 E acc l hi st fs hI H3=>?_) fun g' l h3 acc hl hR st fo H3=>?_
 ·obtain⟨m,t,em,rfl⟩:=pI_get p1 hI
  refine Zh (hel i m em g' t E _ _ _ _ h3 (Zc k1 st) fs H3) (fun y h4 q=>?_) fun o_ o_ q=>q
  obtain⟨g'',w,q1,q2,q3,q4⟩:=q
  exact⟨g'',w,q1,q2,q3,by rw[List.getD_eq_getElem?_getD,em];exact q4⟩
 ·refine k g' acc l h3 (Zc k1 st) fo (Vp (by rw[List.length_map];exact hl.trans hul.symm) fun i v y e1 e2=>?_) H3
  rw[List.getElem?_map] at e2
  have:=hR i v e1
  rw[List.getD_eq_getElem?_getD] at this
  cases q : is[i]? with
  | none=>rw[q] at e2;cases e2
  | some m=>rw[q] at e2 this;cases e2;exact this
theorem w_sumLc {f : Str}{fp pos cpos xp : Pos}{elt iter : Expr}{x : Str}{scope : Scope}{cl : List (Str × Addr)}{Q : Value→Heap→Prop}{is : List Int}{F : Int→Int}(hh : A.handled=none) (H : Led c env g ns vs as os h) (hf : EV c A env (.Name f fp) g ns vs as os (·=.builtin "sum")) (L : LcK scope cl env [x])
 (hit : W c A (eval iter env) (fun v h'=>Ex3 fun (g' : Bas) (r : Addr) (us : List Value)=>An6 (v=.ref r) (g.hp.StaysIn g'.hp) (g'.fo=g.fo) (At g'.hp r (.li us)) (pI is us) (Led c env g' ns vs as os h')) X h) (hz : is.length < 1000)
 (hel : ∀ (i : Nat) (m : Int),is[i]?=some m→∀ (g' : Bas) t E a1 a2 o1 o2,g.hp.StaysIn g'.hp→EV c A (Y1 scope cl E env) elt g' [x] [some (.int m t)] (as ++ [a1] ++ [a2]) (os ++ [o1] ++ [o2]) (isI (F m)))
 (k : ∀ (g' : Bas) t h',g.hp.StaysIn g'.hp→g'.fo=g.fo→Led c env g' ns vs as os h'→Q (.int (is.map F).sum t) h')
 (he : autoParam (starEach [.ListComp elt [⟨.Name x xp,iter,[],0⟩] scope cpos] env=(false,eval (.ListComp elt [⟨.Name x xp,iter,[],0⟩] scope cpos) env) :: starEach [] env) zR)
 (hs : autoParam (∀ x,foldedSetIterable iter env x=pure x) zI) : W c A (eval (.Call (.Name f fp) [.ListComp elt [⟨.Name x xp,iter,[],0⟩] scope cpos] [] pos) env) Q X h:=by
 refine Xj H hf (Zi (w_mapLc hh H L hit hz (fun i m em g' t E a1 a2 o1 o2 h' st fs H'=>(hel i m em g' t E a1 a2 o1 o2 st).run H' fun v hv=>⟨g',_,Zt _,rfl,H',hv⟩) (fun g' r us h' st fo p H'=>Zd (c_sumL hh H' (.ld as.length (Ze rfl) (Ze H'.len1)) p fun t h'' H''=>k g' t h'' st fo H''.init)) hs) he) he
section
variable {L : Addr} {t : Sp} {Q : Flow → Heap → Prop}
theorem ord_get {ps : List (Int × Int)}{ord : List Int}(hp : ord.Perm (Ju ps.length)) {m : Int}(hm : m∈ord) : ∃ (i : Nat),m=(i : Int)∧ps[i]?=some (ps.getD m.toNat (0,0)):=by
 obtain⟨h0,h1⟩:=Tq _ m (hp.mem_iff.mp hm)
 refine⟨m.toNat,(Int.toNat_of_nonneg h0).symm,?_⟩
 rw[List.getD_eq_getElem?_getD,Nc h1];rfl
theorem law_10 {O P PL : Addr}{ovs pvs plv : List Value}{ps : List (Int × Int)}{ord : List Int}{v0 v1 v2 v3 v5 v6 sz : Option Value}{tw : Tok}(hA : Rm A 20) (hh : A.handled=none) (hg : g.fo=[]) (h5 : 5≤ps.length) (h9 : ps.length≤9) (hpos : ∀ p∈ps,0≤p.1∧0≤p.2) (hJ : Jk ps ord) (zO : At g.hp O (.li ovs)) (pO : pI ord ovs) (zP : At g.hp P (.li pvs)) (pP : Paired (Zx g.hp) pvs ps) (zL : At g.hp PL (.li plv)) (pL : pI (Ju ps.length) plv)
 (H : Led c (eL L) g Y8 [v0,v1,v2,v3,some (.ref PL),v5,v6,some (.int (jf (0,0) (oq ps ord)) tw),none,none,none] (LA L) (LO t sz none none none (some (.ref O)) (some (.ref P))) h)
 (cont : ∀ (g' : Bas) h',g.hp.StaysIn g'.hp→g'.fo=[]→Led c (eL L) g' Y8 [v0,v1,v2,v3,some (.ref PL),v5,v6,some (.int (jf (0,0) (oq ps ord)) tw),none,none,none] (LA L) (LO t sz none none none (some (.ref O)) (some (.ref P))) h'→W c A (execs (bL 11) (eL L)) Q noX h') : W c A (execs (bL 10) (eL L)) Q noX h:=by
 have hp:=Mu hJ
 have hl : ord.length=ps.length:=by rw[hp.length_eq];simp
 have hol : ord.length=ovs.length:=Zu pO
 have hpl : pvs.length=ps.length:=pP.length
 refine Yg lb10 ?_
 refine Uq (Yx ((Za 7 rfl rfl : EV c _ _ _ _ _ _ _ _ _).eq H ?_))
 refine Xj H (Zr (by rfl) n_max PyProof.Rows.boot_max) (Zi (w_mapLc (cl:=[("parts",L + 1),("order",L + 2)]) (is:=Ju ps.length) (F:=fun k=>tmA (oq ps ord) k.toNat) hh H ?_ ((Za 4 rfl rfl : EV c _ _ _ _ _ _ _ _ _).eq H ⟨g,PL,plv,rfl,Zt _,rfl,zL,pL,H⟩) (by simp;exact q2 ‹_› (by decide)) ?_ ?_))
 ·exact⟨dk,by kernel_rfl,dk,by kernel_rfl,dk,dk,dk⟩
 ·intro k m em g' tk E a1 a2 o1 o2 h' st fs H'
  have hk : k < ps.length:=by have:=Zn em;simpa using this
  have em : m=(k : Int):=by rw[List.getElem?_map,List.getElem?_range hk] at em;cases em;rfl
  subst em
  have hmem1 : ∀ {i : Nat}{m : Int},(ord.take (k + 1))[i]?=some m→m∈ord:=fun e=>List.mem_of_mem_take (Nd e)
  have hmem2 : ∀ {i : Nat}{m : Int},(ord.drop k)[i]?=some m→m∈ord:=fun e=>List.mem_of_mem_drop (Nd e)
  refine w_bin (w_sumLc (cl:=[("parts",L + 1)]) (is:=ord.take (k + 1)) (F:=fun i=>(ps.getD i.toNat (0,0)).1) hh H' (Zr (by kernel_rfl) n_sum PyProof.Rows.boot_sum) ?_ ?_ (by simp;exact S5 (Nat.min_le_right ..) (xj hl h9 (by decide))) ?_ ?_)
  ·exact⟨dk,by kernel_rfl,dk,by kernel_rfl,dk,dk,dk⟩
  ·refine Ts H' (Xv (by kernel_rfl) (by rfl) (.ld 5 rfl rfl)) (.fz (zO.stay st)) (xj (hol.symm.trans hl) h9 (by decide)) Vf (ep_ev (Ji (Zj 0 rfl rfl) ev_i)) Vf (by simp) fun r h1 H1=>?_
   obtain⟨g1,k1,f1,H2,zr⟩:=H1.solid
   refine⟨g1,r,_,rfl,k1,f1,zr,?_,H2⟩
   exact ints_upto pO (y:=k + 1) (by exact q9 ‹_› ‹_›)
  ·intro i m em2 g2 t2 E2 b1 b2 q1 q2 st2
   obtain⟨j,rfl,ej⟩:=ord_get hp (hmem1 em2)
   exact Mr (Xv (by kernel_rfl) (by rfl) (.ld 6 rfl rfl)) (Zj 0 rfl rfl) (zP.stay (Zc st st2)) (Un (fun a b z=>z.mono (Zc st st2)) pP) ej (by exact q6 ‹_› ‹_› (by decide))
  intro g1 t1 h1 st1 fo1 H1
  refine w_sumLc (cl:=[("parts",L + 1)]) (is:=ord.drop k) (F:=fun i=>(ps.getD i.toNat (0,0)).2) hh H1 (Zr (by kernel_rfl) n_sum PyProof.Rows.boot_sum) ?_ ?_ (by simp;exact S5 (Nat.sub_le ..) (xj hl h9 (by decide))) ?_ ?_
  ·exact⟨dk,by kernel_rfl,dk,by kernel_rfl,dk,dk,dk⟩
  ·refine Ts H1 (Xv (by kernel_rfl) (by rfl) (.ld 5 rfl rfl)) (.fz (zO.stay (Zc st st1))) (xj (hol.symm.trans hl) h9 (by decide)) (ep_ev (Zj 0 rfl rfl)) Vf Vf (by simp) fun r h2 H2=>?_
   obtain⟨g2,k2,f2,H3,zr⟩:=H2.solid
   refine⟨g2,r,_,rfl,k2,f2,zr,?_,H3⟩
   exact ints_from pO (x:=k) (S7 (Na hk) (S9 hl.symm))
  ·intro i m em2 g2 t2 E2 b1 b2 q1 q2 st2
   obtain⟨j,rfl,ej⟩:=ord_get hp (hmem2 em2)
   exact Mt (Xv (by kernel_rfl) (by rfl) (.ld 6 rfl rfl)) (Zj 0 rfl rfl) (zP.stay (Zc st (Zc st1 st2))) (Un (fun a b z=>z.mono (Zc st (Zc st1 st2))) pP) ej (by exact q6 ‹_› ‹_› (by decide))
  intro g2 t2 h2 st2 fo2 H2 kk
  refine PySem.P.add_int (s:=stt c h2 kk) ⟨⟨rfl,rfl,rfl⟩,g2,_,Zc st1 st2,fo2.trans fo1,H2,kk,?_⟩
  congr 1
  unfold tmA oq
  rw[Int.toNat_natCast,← List.map_take,← List.map_drop,List.map_map,List.map_map];rfl
 ·intro g1 r us h1 st1 fo1 p1 H1
  refine Zd (c_maxL hh H1 (.ld 7 rfl rfl) p1 (fun q=>?_) fun M tM h2 hM hle H2=>?_)
  ·have:=congrArg List.length q
   rw[List.length_map,List.length_map,List.length_range,List.length_nil] at this;lia
  ·have hqne : oq ps ord≠[]:=fun q=>by have:=congrArg List.length q;rw[oq_len,List.length_nil] at this;lia
   obtain⟨j1,k,j2,j3⟩:=jf_max hqne fun x hx=>by
    rw[Sa] at hx
    exact (jq_mem hpos _ x hx).1
   have hqlen : (oq ps ord).length=ps.length:=by rw[oq_len,hl]
   have e : jf (0,0) (oq ps ord)=M:=by
    obtain⟨y,hy,rfl⟩:=Ng hM
    have a1:=j1 y.toNat (by rw[hqlen];exact (Tq _ y hy).2)
    have a2:=hle (tmA (oq ps ord) k) (List.mem_map.mpr ⟨(k : Int),List.mem_map.mpr ⟨k,List.mem_range.mpr (by exact r1 ‹_› ‹_›),rfl⟩,by rw[Int.toNat_natCast]⟩)
    exact Int.le_antisymm (Nb (Int.le_of_eq j3) a2) a1
   refine Jy (R:=fun v=>v=.bool (jf (0,0) (oq ps ord) != M)) (ne_ii h2 H2 _ _ ⟨_,rfl⟩ ⟨_,rfl⟩) fun v hv=>?_
   subst hv
   refine Yb ?_
   rw[e]
   simp only[bne_self_eq_false,Bool.false_eq_true,if_false]
   exact fun kk=>wpAny_execs_nil ⟨⟨rfl,rfl,rfl⟩,cont g1 h2 st1 (fo1.trans hg) (H2.take 7)⟩
end
theorem bits_ne {n S : Nat}(h0 : S≠0) (h1 : S < 2 ^ n) : Yq n S≠[]:=by
 obtain⟨i,hi⟩:=Nat.exists_testBit_of_ne_zero h0
 have hin : i < n:=by
  rcases Nat.lt_or_ge i n with h | h
  ·exact h
  ·rw[Nat.testBit_lt_two_pow (S6 h1 (Nat.pow_le_pow_right (by decide) h))] at hi;cases hi
 rw[Nat.testBit_eq_decide_div_mod_eq] at hi
 have : i∈Yq n S:=Xz.mpr ⟨hin,by unfold Vb;simpa using hi⟩
 intro q;rw[q] at this;cases this
theorem LT.snoc {ps : List (Int × Int)}{n : Nat}{T : List Int}{v : Int}(h : LT ps n (fun S=>T.getD S 0) T.length) (h0 : T≠[])
 (h1 : ∃ i∈Yq n T.length,v=max (((Yq n T.length).map fun i=>(ps.getD i (0,0)).1).sum) (T.getD (T.length - 2 ^ i) 0) + (ps.getD i (0,0)).2)
 (h2 : ∀ i∈Yq n T.length,v≤max (((Yq n T.length).map fun i=>(ps.getD i (0,0)).1).sum) (T.getD (T.length - 2 ^ i) 0) + (ps.getD i (0,0)).2) : LT ps n (fun S=>(T ++ [v]).getD S 0) (T ++ [v]).length:=by
 have hl : 0 < T.length:=List.length_pos_iff.mpr h0
 have lo : ∀ S,S < T.length→(T ++ [v]).getD S 0=T.getD S 0:=fun S hS=>by rw[List.getD_eq_getElem?_getD,List.getD_eq_getElem?_getD,List.getElem?_append_left hS]
 have hi : (T ++ [v]).getD T.length 0=v:=by rw[List.getD_eq_getElem?_getD,List.getElem?_append_right (Nat.le_refl _)];simp
 have sb : ∀ S i,i∈Yq n S→S - 2 ^ i < S:=fun S i hb=>by exact Nat.sub_lt (S6 (Nat.two_pow_pos i) (bit_ge (Xz.mp hb).2)) (Nat.two_pow_pos i)
 refine⟨by show (T ++ [v]).getD 0 0=0;rw[lo 0 hl];exact h.z,fun S hS hne=>?_⟩
 rw[List.length_append,List.length_singleton] at hS
 by_cases e : S=T.length
 ·subst e
  show (∃ i∈Yq n T.length,(T ++ [v]).getD T.length 0=max _ ((T ++ [v]).getD (T.length - 2 ^ i) 0) + _)∧∀ i∈Yq n T.length,(T ++ [v]).getD T.length 0≤max _ ((T ++ [v]).getD (T.length - 2 ^ i) 0) + _
  rw[hi]
  refine⟨?_,fun i hb=>by rw[lo _ (sb _ i hb)];exact h2 i hb⟩
  obtain⟨i,hb,e⟩:=h1
  exact⟨i,hb,by rw[lo _ (sb _ i hb)];exact e⟩
 ·have hS' : S < T.length:=Nat.lt_of_le_of_ne (Nat.le_of_lt_succ hS) e
  obtain⟨⟨i,hb,e1⟩,e2⟩:=h.st S hS' hne
  show (∃ i∈Yq n S,(T ++ [v]).getD S 0=max _ ((T ++ [v]).getD (S - 2 ^ i) 0) + _)∧∀ i∈Yq n S,(T ++ [v]).getD S 0≤max _ ((T ++ [v]).getD (S - 2 ^ i) 0) + _
  rw[lo S hS']
  refine⟨⟨i,hb,?_⟩,fun i hb=>?_⟩
  ·have:=sb S i hb;rw[lo _ (by exact s5 ‹_› ‹_›)];exact e1
  ·have:=sb S i hb;rw[lo _ (by exact s5 ‹_› ‹_›)];exact e2 i hb
theorem bit_int (S i : Nat) : (((S : Int).fdiv (2 ^ ((i : Int).toNat))).fmod 2 == 1)=Vb S i:=by
 have e1 : ((2 : Int) ^ ((i : Int).toNat))=((2 ^ i : Nat) : Int):=by rw[Int.toNat_natCast];exact (Int.natCast_pow 2 i).symm
 rw[e1,Int.fdiv_eq_ediv_of_nonneg _ (Int.natCast_nonneg _),Int.fmod_eq_emod_of_nonneg _ (by decide),← Int.natCast_ediv]
 unfold Vb
 generalize S / 2 ^ i=q
 have : ((q : Int) % 2)=((q % 2 : Nat) : Int):=by exact rfl
 rw[this]
 rcases Nat.mod_two_eq_zero_or_one q with h | h <;> rw[h] <;> rfl
theorem upto_filter (n S : Nat) : (Ju n).filter (fun i=>Vb S i.toNat)=(Yq n S).map fun i : Nat=>(i : Int):=by
 unfold Ju Yq
 rw[List.filter_map]
 congr 1
theorem LcC.filt {x : Str}{xp xp' pos : Pos}{cond iter : Expr}{scope : Scope}{cl : List (Str × Addr)}{vf : Addr→List (Option Value)}{Q : Value→Heap→Prop}{it r : Addr}{is : List Int}{us : List Value}{b : Int→Bool}(hh : A.handled=none) (hx : Str.ofString "__debug__"≠x) (H : Led c env g ns vs (as ++ [it]) (os ++ [.itL r 0]) h) (z : At g.hp r (.li us)) (p : pI is us) (hz : is.length < 1000)
 (tst : ∀ m∈is,∀ (g' : Bas) t E a1 a2 o1 o2,g.hp.StaysIn g'.hp→TV c A (Y1 scope cl E env) cond g' [x] [some (.int m t)] (as ++ [a1] ++ [a2]) (os ++ [o1] ++ [o2]) (b m))
 (fin : ∀ (g' : Bas) l h' acc,pI (is.filter b) l→g.hp.StaysIn g'.hp→g'.fo=g.fo→Led c env g' ns (vf acc) (as ++ [acc]) (os ++ [.li l]) h'→Q (.ref acc) h') : LcC c A env g ns vs as os cl [x] (.ListComp (.Name x xp') [⟨.Name x xp,iter,[cond],0⟩] scope pos) scope vf Q (.ref it) h:=by
 have hul:=Zu p
 refine .of ⟨g,it,us.length,_,_,_,fun i o_ l=>pI ((is.take i).filter b) l∧l.length≤i,Zt _,rfl,rfl,Xk hh,z,H,by exact q7 ‹_› ‹_› (by decide),fun i g' l q=>q.2,fun o_ o_=>⟨.nil,Nat.le_refl _⟩,?_,?_⟩
 ·rintro i g' vs' l v h' E acc QX QT hi ⟨q1,q2⟩ st fs hI hvl H'
  obtain⟨w,rfl⟩:=one_of hvl
  obtain⟨m,t,em,rfl⟩:=pI_get p hI
  have ht : is.take (i + 1)=is.take i ++ [m]:=by rw[List.take_add_one,em];rfl
  refine Yp 0 rfl rfl H' fun h1 H1=>?_
  refine M0 (Xs (tst m (Nd em) g' t E _ _ _ _ st) H1 ?_)
  cases hb : b m with
  | true =>
   refine ifT rfl ?_
   refine (Za 0 rfl rfl : EV c _ _ _ _ _ _ _ _ _).eq H1 ⟨g',_,Zt _,rfl,rfl,H1,?_,by simp;assumption⟩
   rw[ht,List.filter_append,List.filter_cons_of_pos hb,List.filter_nil]
   exact q1.snoc ⟨t,rfl⟩
  | false =>
   refine ifF (by decide) ?_
   refine⟨g',_,Zt _,rfl,rfl,H1,?_,by lia⟩
   rw[ht,List.filter_append,List.filter_cons_of_neg (by rw[hb];decide),List.filter_nil,List.append_nil]
   exact q1
 ·rintro g' l h' acc ⟨q1,q2⟩ st fo H'
  rw[← hul,List.take_length] at q1
  exact fin g' l h' acc q1 st fo H'
section
variable {L : Addr} {t : Sp} {Q : Flow → Heap → Prop}
theorem law_11 {v0 v1 v2 v3 v4 v5 v6 v7 sz od pa : Option Value}(H : Led c (eL L) g Y8 [v0,v1,v2,v3,v4,v5,v6,v7,none,none,none] (LA L) (LO t sz none none none od pa) h)
 (cont : ∀ LE tz h',Led c (eL L) g Y8 [v0,v1,v2,v3,v4,v5,v6,v7,none,none,none] (LA L ++ [LE]) (LO t sz none none (some (.ref LE)) od pa ++ [.li [.int 0 tz]]) h'→W c A (execs (bL 12) (eL L)) Q noX h') : W c A (execs (bL 11) (eL L)) Q noX h:=by
 refine Yg lb11 ?_
 refine Zz ?_
 refine Je (Zi ((ev_i : EV c _ _ _ _ _ _ _ _ _).runI H fun tz=>Zd ⟨by rw[sizeLine_eq];simp,?_⟩))
 exact Jh 4 (by rfl) (by rfl) rfl rfl (H.newL [.int 0 tz]) fun h1 H1=>cont _ tz h1 H1
end
theorem Vh {n : Nat}(h : n≤9) : 2 ^ n≤512:=(Nat.pow_le_pow_right (by decide) h : 2 ^ n≤2 ^ 9)
theorem ipow (n : Nat) : ((2 : Int) ^ ((n : Int).toNat))=((2 ^ n : Nat) : Int):=by rw[Int.toNat_natCast];exact (Int.natCast_pow 2 n).symm
section
variable {L : Addr} {t : Sp} {Q : Flow → Heap → Prop}
theorem law_12 {P PL LE : Addr}{pvs plv : List Value}{ps : List (Int × Int)}{v0 v1 v2 v3 v5 v6 v7 sz od : Option Value}{tz : Tok}(hA : Rm A 20) (hh : A.handled=none) (hg : g.fo=[]) (h5 : 5≤ps.length) (h9 : ps.length≤9) (zP : At g.hp P (.li pvs)) (pP : Paired (Zx g.hp) pvs ps) (zL : At g.hp PL (.li plv)) (pL : pI (Ju ps.length) plv)
 (H : Led c (eL L) g Y8 [v0,v1,v2,v3,some (.ref PL),v5,v6,v7,none,none,none] (LA L ++ [LE]) (LO t sz none none (some (.ref LE)) od (some (.ref P)) ++ [.li [.int 0 tz]]) h)
 (cont : ∀ (g' : Bas) (T : List Int) (lvs : List Value) (v8 fi so : Option Value) (h' : Heap),g.hp.StaysIn g'.hp→g'.fo=[]→T.length=2 ^ ps.length→LT ps ps.length (fun S=>T.getD S 0) (2 ^ ps.length)→pI T lvs →
  Led c (eL L) g' Y8 [v0,v1,v2,v3,some (.ref PL),v5,v6,v7,v8,none,none] (LA L ++ [LE]) (LO t sz fi so (some (.ref LE)) od (some (.ref P)) ++ [.li lvs]) h'→W c A (execs (bL 13) (eL L)) Q noX h') : W c A (execs (bL 12) (eL L)) Q noX h:=by
 have hpl : pvs.length=ps.length:=pP.length
 have hps:=Vh h9
 have hp1:=Nat.two_pow_pos ps.length
 have hip:=ipow pvs.length
 have hpvs:=Vh (n:=pvs.length) (by exact s2 ‹_› ‹_›)
 refine Yg lb12 ?_
 refine (?_ : SB c _ _ _ _ _ _ _ _ _ _) h H
 refine X9 (fun h'=>Ex6 fun (g' : Bas) (T : List Int) (lvs : List Value) (v8 fi so : Option Value)=>An6 (g.hp.StaysIn g'.hp) (g'.fo=[]) (T.length=2 ^ ps.length) (LT ps ps.length (fun S=>T.getD S 0) T.length) (pI T lvs) (Led c (eL L) g' Y8 [v0,v1,v2,v3,some (.ref PL),v5,v6,v7,v8,none,none] (LA L ++ [LE]) (LO t sz fi so (some (.ref LE)) od (some (.ref P)) ++ [.li lvs]) h')) ?_
  fun h' q=>by obtain⟨g',T,lvs,v8,fi,so,q1,q2,q3,q4,q5,H'⟩:=q;exact cont g' T lvs v8 fi so h' q1 q2 q3 (q3 ▸ q4) q5 H'
 intro F'
 refine fun h' H'=>w_range2 H' (Zr (by rfl) Jv boot_range) (a:=1) (b:=2 ^ (pvs.length : Int).toNat) ev_i (ev_pow ev_i (Uh (Zr (by rfl) Uf boot_len) (Xv (by rfl) (by rfl) (.ld 6 rfl rfl)) (.fz zP) (by exact q6 ‹_› ‹_› (by decide))) (by with_reducible exact Int.natCast_nonneg _) (Int.ofNat_le.mpr (S7 (hpl ▸ h9) (by decide))) (by decide)) (by decide) (by decide) (by rw[hip];exact Nb (by decide) (Int.natCast_nonneg _)) (by rw[hip];exact Int.lt_of_le_of_lt (Int.ofNat_le.mpr hpvs) (by decide)) fun it h'' H''=>?_
 have hn : ((2 : Int) ^ (pvs.length : Int).toNat - 1).toNat=2 ^ ps.length - 1:=by rw[hip,hpl];exact Int.toNat_sub _ 1
 rw[hn] at H''
 refine⟨it,2 ^ ps.length - 1,fun i=>.itR (1 + i) ((2 ^ ps.length - 1 : Nat) - i) 1,fun i v=>isI (1 + i) v,fun o_=>True,fun i g' vs' as' os'=>Ex5 fun (T : List Int) (lvs : List Value) (v8 fi so : Option Value)=>An8 (g.hp.StaysIn g'.hp) (g'.fo=[]) (T.length=i + 1) (LT ps ps.length (fun S=>T.getD S 0) T.length) (pI T lvs) (vs'=[v0,v1,v2,v3,some (.ref PL),v5,v6,v7,v8,none,none]) (as'=LA L ++ [LE]) (os'=LO t sz fi so (some (.ref LE)) od (some (.ref P)) ++ [.li lvs]),rfl,J4 hh,
  ⟨_,_,_,_,⟨[0],[.int 0 tz],none,none,none,Zt _,hg,rfl,⟨rfl,fun S hS hne=>absurd hS (by simp;assumption)⟩,.cons ⟨tz,rfl⟩ .nil,rfl,rfl,rfl⟩,H''⟩,fun o_ o_ o_ o_ o_ o_=>trivial,?_,?_⟩
 ·rintro J' i QL g' o_ o_ o_ v h₃ hi ⟨T,lvs,v8,fi,so,j1,j2,j3,j4,j5,rfl,rfl,rfl⟩ ⟨ts,rfl⟩ H3
  refine H3.lv ?_
  clear H3
  intro vl H3
  have hTl:=Zu j5
  obtain⟨S,hS⟩ : ∃ S : Nat,S=T.length:=⟨_,rfl⟩
  rw[show (1 : Int) + (i : Int)=(S : Int) by rw[hS,j3];exact Int.add_comm ..] at *
  have hS0 : S≠0:=hS.trans j3 ▸ Nat.succ_ne_zero _
  have hS1 : S < 2 ^ ps.length:=by rw[hS,j3];exact Nat.add_lt_of_lt_sub hi
  have zP1:=zP.stay j1
  have pP1:=Un (fun a b (z : Zx g.hp a b)=>z.mono j1) pP
  have hb9 : ∀ i∈Yq ps.length S,i < ps.length∧2 ^ i≤S:=fun i hb=>⟨(Xz.mp hb).1,bit_ge (Xz.mp hb).2⟩
  have pw : ∀ i : Nat,i < ps.length→(2 ^ ((i : Int).toNat) : Int)=((2 ^ i : Nat) : Int)∧2 ^ i≤512:=fun i hi=>⟨ipow i,Vh (S7 (Na hi) h9)⟩
  refine T5 3 (by rfl) (by rfl) rfl rfl H3 fun h4 H4=>?_
  refine w_lcT (ns':=["i"]) (cl:=[("some",L + 4)]) 8 rfl rfl H4 ?_ ((Za 4 rfl rfl : EV c _ _ _ _ _ _ _ _ _).eq H4 (Jl H4 (.fz (zL.stay j1)) fun it2 h₅ H5=>?_)) (by kernel_rfl)
  ·exact⟨dk,by kernel_rfl,dk,by kernel_rfl,dk,dk,dk⟩
  refine LcC.filt (b:=fun m=>Vb S m.toNat) hh (by decide) H5 (zL.stay j1) pL (by simp;exact q2 ‹_› (by decide)) (fun m hm g2 tm E a1 a2 o1 o2 st2=>?_) fun g2 dvs h6 dn pd st2 fo2 H6=>?_
  ·obtain⟨k,hk,rfl⟩:=Ng hm
   have hk:=List.mem_range.mp hk
   obtain⟨e1,e2⟩:=pw k hk
   have:=Nat.two_pow_pos k
   refine (Zb (Te (V7 (Mo (by kernel_rfl) (by rfl) (.ld 3 rfl rfl)) (ev_pow ev_i (Zj 0 rfl rfl) (by with_reducible exact Int.natCast_nonneg _) (Int.ofNat_le.mpr (S7 (Na hk) (S7 h9 (by decide)))) (by decide)) (by rw[e1];exact Int.ne_of_gt (Int.ofNat_lt.mpr this)) (by rw[e1];exact q2 ‹_› (by decide))) ev_i (by decide)) ev_i Sd).cast ?_
   rw[Int.toNat_natCast];exact bit_int S k
  rw[upto_filter] at pd
  obtain⟨g3,k3,f3,H7,zD⟩:=H6.solid
  have st3:=Zc j1 (Zc st2 k3)
  have zP3:=zP.stay st3
  have pP3:=Un (fun a b (z : Zx g.hp a b)=>z.mono st3) pP
  have hbl : (Yq ps.length S).length≤ps.length:=by
   have:=List.length_filter_le (fun i=>Vb S i) (List.range ps.length)
   rw[List.length_range] at this;exact this
  have mget : ∀ {i : Nat}{m : Int},((Yq ps.length S).map fun i : Nat=>(i : Int))[i]?=some m→∃ k : Nat,m=(k : Int)∧k∈Yq ps.length S:=fun e=>by
   obtain⟨k,hk,e⟩:=Ng (Nd e)
   exact⟨k,e.symm,hk⟩
  have Sz : ∀ k∈Yq ps.length S,ps[k]?=some (ps.getD k (0,0)):=fun k hk=>by rw[List.getD_eq_getElem?_getD,Nc (hb9 k hk).1];rfl
  refine Zz ?_
  refine w_sumLc (cl:=[("parts",L + 1)]) (is:=(Yq ps.length S).map fun i : Nat=>(i : Int)) (F:=fun i=>(ps.getD i.toNat (0,0)).1) hh H7 (Zr (by rfl) n_sum PyProof.Rows.boot_sum) ?_ ((Za 8 rfl rfl : EV c _ _ _ _ _ _ _ _ _).eq H7 ⟨g3,dn,dvs,rfl,Zt _,rfl,zD,pd,H7⟩) (by simp;exact S5 (S7 hbl h9) (by decide)) ?_ ?_
  ·exact⟨dk,by kernel_rfl,dk,by kernel_rfl,dk,dk,dk⟩
  ·intro i m em g4 tm E a1 a2 o1 o2 st4
   obtain⟨k,rfl,hk⟩:=mget em
   exact Mr (Xv (by kernel_rfl) (by rfl) (.ld 6 rfl rfl)) (Zj 0 rfl rfl) (zP3.stay st4) (Un (fun a b z=>z.mono st4) pP3) (by rw[Int.toNat_natCast];exact Sz k hk) (by exact q6 ‹_› ‹_› (by decide))
  intro g4 tf h8 st4 fo4 H8
  have esum : (((Yq ps.length S).map fun i : Nat=>(i : Int)).map fun i=>(ps.getD i.toNat (0,0)).1).sum=((Yq ps.length S).map fun i=>(ps.getD i (0,0)).1).sum:=by
   rw[List.map_map];rfl
  rw[esum]
  generalize hF : ((Yq ps.length S).map fun i=>(ps.getD i (0,0)).1).sum=Fs
  refine Jh 2 (by rfl) (by rfl) rfl rfl H8 fun h₉ H9=>?_
  have zP4:=zP3.stay st4
  have pP4:=Un (fun a b (z : Zx g3.hp a b)=>z.mono st4) pP3
  have hd:=H9.hd (i:=7) rfl rfl
  refine Yj (Xa H9 (Xv (by rfl) (by rfl) (.ld 4 rfl rfl)) PySem.F.plainAttrs_list PySem.F.slot_list_append PySem.F.type_list_append hd.1 hd.2 (Zi ?_))
  refine Xj H9 (Zr (by rfl) n_min PyProof.Rows.boot_min) (Zi (w_mapLc (cl:=[("some",L + 4),("parts",L + 1),("least",L + 3),("first",L + 5)]) (is:=(Yq ps.length S).map fun i : Nat=>(i : Int)) (F:=fun i=>max Fs (T.getD (S - 2 ^ i.toNat) 0) + (ps.getD i.toNat (0,0)).2) hh H9 ?_ ((Za 8 rfl rfl : EV c _ _ _ _ _ _ _ _ _).eq H9 ⟨g4,dn,dvs,rfl,Zt _,rfl,zD.stay st4,pd,H9⟩) (by simp;exact S5 (S7 hbl h9) (by decide)) ?_ ?_))
  ·exact⟨dk,by kernel_rfl,dk,by kernel_rfl,dk,dk,dk⟩
  ·intro i m em g5 tm E a1 a2 o1 o2 h10 st5 fs5 H10
   obtain⟨k,rfl,hk⟩:=mget em
   obtain⟨e1,e2⟩:=pw k (hb9 k hk).1
   have e3:=(hb9 k hk).2
   have e5:=(hb9 k hk).1
   have e4:=Nat.two_pow_pos k
   have hlt : S - 2 ^ k < T.length:=Nat.lt_of_lt_of_eq (Nat.sub_lt (S6 e4 e3) e4) hS
   obtain⟨w,ew,⟨tw,rfl⟩⟩:=Yn j5 (i:=S - 2 ^ k) (x:=T.getD (S - 2 ^ k) 0) (by rw[List.getD_eq_getElem?_getD,Nc hlt];rfl)
   refine w_bin (Xj H10 (Zr (by kernel_rfl) n_max PyProof.Rows.boot_max) (Y7 H10 (Mo (by kernel_rfl) (by rfl) (.ld 2 rfl rfl)) fun t1=>Zq H10 (Yc (v:=.int (T.getD (S - 2 ^ k) 0) tw) (Xv (by kernel_rfl) (by rfl) (.ld 4 rfl rfl)) (T8 (Mo (by kernel_rfl) (by rfl) (.ld 3 rfl rfl)) (ev_pow ev_i (Zj 0 rfl rfl) (by with_reducible exact Int.natCast_nonneg _) (Int.ofNat_le.mpr (S7 (Na e5) (S7 h9 (by decide)))) (by decide))) (.ld 7 rfl rfl) (by rw[e1];exact yo e3) (by rw[← hTl,← hS];exact S6 hS1 (S7 hps (by decide))) (by rw[e1,Int.toNat_sub];exact ew)) (Zd (c_max2 hh H10 fun t2 h11 H11=>?_))))
   refine (Mt (Xv (by kernel_rfl) (by rfl) (.ld 6 rfl rfl)) (Zj 0 rfl rfl) (zP4.stay st5) (Un (fun a b z=>z.mono st5) pP4) (Sz k hk) (by exact q6 ‹_› ‹_› (by decide)) : EV c _ _ _ _ _ _ _ _ _).runI H11 fun t3=>?_
   intro kk
   refine PySem.P.add_int (s:=stt c h11 kk) ⟨⟨rfl,rfl,rfl⟩,g5,_,Zt _,rfl,H11,kk,?_⟩
   rw[Int.toNat_natCast];rfl
  intro g5 ml mus h10 st5 fo5 pm H10
  refine Zd (c_minL hh H10 (.ld 9 rfl rfl) pm (fun q=>?_) fun M tM h11 hM hle H11=>?_)
  ·rw[List.map_map,List.map_eq_nil_iff] at q
   exact bits_ne hS0 hS1 q
  have H12:=H11.init
  refine Zd (X8 (i:=7) H12 rfl rfl (by rw[sizeLine_eq,← hTl,← hS];exact S7 (Na hS1) (S7 hps (by decide))) fun h12 H13=>?_)
  refine fun kk=>wpAny_execs_nil ⟨⟨rfl,rfl,rfl⟩,?_⟩
  refine⟨g5,_,_,_,⟨T ++ [M],_,_,_,_,Zc st3 (Zc st4 st5),fo5.trans (fo4.trans (f3.trans (fo2.trans j2))),by simp;assumption,?_,j5.snoc ⟨tM,rfl⟩,rfl,rfl,rfl⟩,H13⟩
  have hTne : T≠[]:=fun q=>by rw[q] at hS;exact hS0 hS
  subst hS
  refine j4.snoc hTne ?_ fun k hk=>?_
  ·obtain⟨y,hy,e⟩:=Ng hM
   obtain⟨k,hk,rfl⟩:=Ng hy
   rw[hF]
   exact⟨k,hk,by rw[← e,Int.toNat_natCast]⟩
  ·rw[hF]
   have:=hle _ (List.mem_map.mpr ⟨(k : Int),List.mem_map.mpr ⟨k,hk,rfl⟩,rfl⟩)
   rw[Int.toNat_natCast] at this
   exact this
 ·rintro g' o_ o_ o_ h₃ ⟨T,lvs,v8,fi,so,j1,j2,j3,j4,j5,rfl,rfl,rfl⟩ H3
  exact⟨g',T,lvs,v8,fi,so,j1,j2,j3.trans (Nat.sub_add_cancel hp1),j4,j5,H3⟩
end
theorem cd_turn {x y : Str}{px py px' py' tp ep pos : Pos}{x1 x2 : Nat}{iter : Expr}{scope : Scope}{it acc a : Addr}{ls : List Value}{ps : List (Int × Int)}(hh : A.handled=none) (H : Led c env g [x,y] [none,none] (as ++ [it] ++ [acc]) (os ++ [.itL a 0] ++ [.li []]) h) (z : At g.hp a (.li ls)) (zp : Paired (Zx g.hp) ls ps) (hz : ps.length < 1000) :
 CD c A (.compStart (.ListComp (.Tuple [.Name y py',.Name x px'] x2 ep) [⟨.Tuple [.Name x px,.Name y py] x1 tp,iter,[],0⟩] scope pos) 0 (.ref it) (.ref acc) env) (LcR c env g [x,y] as acc os fun hp l=>Paired (Zx hp) l (ps.map sw)) h:=by
 have hlen : as.length=os.length:=by have:=H.len;simp at this;assumption
 have hul : ls.length=ps.length:=zp.length
 have ja : (as ++ [it] ++ [acc])[as.length]?=some it:=Yh rfl
 have pa : (as ++ [it] ++ [acc])[as.length + 1]?=some acc:=Yy rfl
 have loop : ∀ kk,codeAny (mdl c) A (.compLoop (.ListComp (.Tuple [.Name y py',.Name x px'] x2 ep) [⟨.Tuple [.Name x px,.Name y py] x1 tp,iter,[],0⟩] scope pos) 0 (.ref it) (.ref acc) env) (fun r s'=>Okk c s'∧LcR c env g [x,y] as acc os (fun hp l=>Paired (Zx hp) l (ps.map sw)) r s'.heap) (stt c h kk):=fun kk=>by
  refine ca_let ?_
  intro R'
  refine LCp.codeAny_compLoop_pair (I:=fun m s=>An2 (Okk c s) (Ex5 fun i (g' : Bas) (w1 w2 : Option Value) (l : List Value)=>An6 (m=ls.length - i) (i≤ls.length) (g.hp.StaysIn g'.hp) (g'.fo=g.fo) (Paired (Zx g'.hp) l ((ps.take i).map sw)) (Led c env g' [x,y] [w1,w2] (as ++ [it] ++ [acc]) (os ++ [Sp.itL a i] ++ [Sp.li l]) s.heap))) (fun m s hI=>?_) ls.length ⟨⟨rfl,rfl,rfl⟩,0,g,none,none,[],rfl,Nat.zero_le _,Zt _,rfl,.nil,H⟩
  refine Jd ?_
  intro Q2 X2
  obtain⟨o3,i,g1,w1,w2,l,rfl,hi,k1,f1,pl,H1⟩:=hI
  have jo : (os ++ [Sp.itL a i] ++ [Sp.li l])[as.length]?=some (Sp.itL a i):=Yh hlen
  rcases Nat.lt_or_ge i ls.length with hlt | hge
  ·refine Z5 ((Xk hh).nxt (i:=i) H1 ja jo (z.stay k1) hlt) o3 fun r s1 o4 q=>?_
   obtain⟨v,rfl,hI,H2⟩:=q
   rw[V9 hlen] at H2
   refine Jd ?_
   intro Q3 X3
   have hip : i < ps.length:=by exact r1 ‹_› ‹_›
   obtain⟨v',ev',⟨b,t,u,rfl,zb⟩⟩:=pget zp (Nc hip)
   rw[hI] at ev';cases ev'
   refine Z5 (Q:=fun o_ h'=>h'=s1.heap) (w_lots (H2.at_ as.length it _ ja (Yh hlen)) rfl) o4 fun o_ s2 o5 e5=>?_
   rw[← e5] at H2
   refine Z5 (Q:=fun o_ h'=>Led c env g1 [x,y] [some (.int ps[i].1 t),some (.int ps[i].2 u)] (as ++ [it] ++ [acc]) (os ++ [Sp.itL a (i + 1)] ++ [Sp.li l]) h') (Ss hh H2 (.fz (zb.stay k1)) rfl fun h3 H3=>Yi (Yp 0 rfl rfl H3 fun h4 H4=>Yi (Yp 1 rfl rfl H4 fun h5 H5=>Ud H5))) o5 fun o_ s3 o6 H3=>?_
   refine Z5 (Q:=fun v h'=>Ex1 fun (g2 : Bas)=>An5 (v=.ref s3.heap.objs.size) (g1.hp.StaysIn g2.hp) (g2.fo=g1.fo) (Zx g2.hp v (sw ps[i])) (Led c env g2 [x,y] [some (.int ps[i].1 t),some (.int ps[i].2 u)] (as ++ [it] ++ [acc]) (os ++ [Sp.itL a (i + 1)] ++ [Sp.li l]) h')) (Yr (Zq H3 (Za 1 rfl rfl) (Zq H3 (Za 0 rfl rfl) (Zd ⟨by rw[sizeLine_eq];simp,?_⟩)))) o6 fun v s4 o7 q=>?_
   ·obtain⟨g2,k2,f2,H4,z4⟩:=(H3.newT [.int ps[i].2 u,.int ps[i].1 t]).solid
    exact⟨g2,rfl,k2,f2,⟨_,u,t,rfl,z4⟩,H4⟩
   ·obtain⟨g2,o_,k2,f2,hp,H4⟩:=q
    have hll : l.length=((ps.take i).map sw).length:=pl.length
    rw[List.length_map,List.length_take] at hll
    refine Z5 (Q:=fun o_ h'=>Led c env g2 [x,y] [some (.int ps[i].1 t),some (.int ps[i].2 u)] (as ++ [it] ++ [acc]) ((os ++ [Sp.itL a (i + 1)] ++ [Sp.li l]).set (as.length + 1) (.li (l ++ [v]))) h') (X8 H4 pa (Yy hlen) (by rw[sizeLine_eq];exact S7 (S9 hll) (S7 (Nat.min_le_right ..) (Na (S8 hz (by decide))))) fun h' H'=>H') o7 fun o_ s5 o8 H5=>?_
    rw[Vg hlen] at H5
    refine⟨ls.length - (i + 1),Nat.sub_lt_sub_left hlt (Nat.lt_succ_self i),o8,i + 1,g2,_,_,l ++ [v],rfl,hlt,Zc k1 k2,f2.trans f1,?_,H5⟩
    rw[List.take_add_one,Nc hip,Option.toList_some,List.map_append]
    exact (Un (fun a b z=>z.mono k2) pl).snoc hp
  ·obtain rfl : i=ls.length:=by lia
   refine Z5 ((Xk hh).stp H1 ja jo (z.stay k1)) o3 fun r s1 o4 q=>?_
   obtain⟨rfl,H2⟩:=q
   rw[Jp rfl,Jp hlen] at H2
   rw[hul,List.take_length] at pl
   exact⟨o4,_,rfl,g1,_,l,k1,f1,H2,pl⟩
 intro kk
 refine codeAny_compStart_list (loop kk) (wpAny_mono ((Xk (a:=a) (l:=ls) hh).re H ja (Yh hlen) kk) (fun r s' q=>?_) fun o_ o_ q=>q.2.elim)
 obtain⟨o1,rfl,e⟩:=q
 rw[o1.eq,e]
 exact loop _
theorem w_ret {e : Expr}{p : Pos}{rest : List Stmt}{Q : Flow→Heap→Prop}(x : W c A (eval e env) (fun v h'=>Q (.ret v) h') X h) : W c A (execs (.Return (some e) p :: rest) env) Q X h:=Yz fun k=>wpAny_Return_some (x k)
theorem w_and3 {e1 e2 e3 : Expr}{p : Pos}{Q : Value→Heap→Prop}(x : W c A (eval e1 env) (fun v h₁=>v=.bool true∧W c A (eval e2 env) (fun v2 h₂=>v2=.bool true∧W c A (eval e3 env) Q X h₂) X h₁) X h) : W c A (eval (.BoolOp .And [e1,e2,e3] p) env) Q X h:=fun k=>by
 have ht : ∀ {t : Sem Value}{s : Shared},Okk c s→wpAny (mdl c) A t (fun a s'=>Okk c s'∧Q a s'.heap) (fun e s'=>Okk c s'∧X e s'.heap) s→wpAny (mdl c) A (do standAt p;let b ← holding [.bool true] (truthy (.bool true));match (BoolOp.And : BoolOp),b with | .And,false | .Or,true=>pure (.bool true) | _,_=>t) (fun a s'=>Okk c s'∧Q a s'.heap) (fun e s'=>Okk c s'∧X e s'.heap) s:=fun o ht =>
  wpAny_bind (wpAny_standAt (wpAny_bind (wpAny_holding (wpAny_truthy_bool ht))))
 show wpAny _ _ (boolOp p .And [eval e1 env,eval e2 env,eval e3 env]) _ _ _
 refine wpAny_bind (m:=eval e1 env) (wpAny_mono (x k) (fun v s1 q=>?_) fun o_ o_ q=>q)
 obtain⟨o1,rfl,q⟩:=q
 refine ht o1 ?_
 refine wpAny_bind (m:=eval e2 env) (wpAny_mono (Zy q o1) (fun v2 s2 q2=>?_) fun o_ o_ q=>q)
 obtain⟨o2,rfl,q2⟩:=q2
 refine ht o2 ?_
 exact Zy (t:=eval e3 env) q2 o2
section
variable {L : Addr} {t : Sp} {Q : Flow → Heap → Prop}
theorem law_13 {P LE : Addr}{pvs : List Value}{lsp : Sp}{ps : List (Int × Int)}{v0 v1 v2 v3 v4 v5 v6 v7 v8 sz fi so le od : Option Value}(hh : A.handled=none) (hg : g.fo=[]) (h9 : ps.length≤9) (zP : At g.hp P (.li pvs)) (pP : Paired (Zx g.hp) pvs ps)
 (H : Led c (eL L) g Y8 [v0,v1,v2,v3,v4,v5,v6,v7,v8,none,none] (LA L ++ [LE]) (LO t sz fi so le od (some (.ref P)) ++ [lsp]) h)
 (cont : ∀ (g' : Bas) (TN : Addr) (tvs : List Value) (h' : Heap),g.hp.StaysIn g'.hp→g'.fo=[]→At g'.hp TN (.li tvs)→Paired (Zx g'.hp) tvs (ps.map sw) →
  Led c (eL L) g' Y8 [v0,v1,v2,v3,v4,v5,v6,v7,v8,some (.ref TN),none] (LA L ++ [LE]) (LO t sz fi so le od (some (.ref P)) ++ [lsp]) h'→W c A (execs (bL 14) (eL L)) Q noX h') : W c A (execs (bL 13) (eL L)) Q noX h:=by
 refine Yg lb13 ?_
 refine w_lcT (ns':=["first","second"]) (cl:=[]) 9 rfl rfl H ?_ ((Xv (by rfl) (by rfl) (.ld 6 rfl rfl) : EV c _ _ _ _ _ _ _ _ _).eq H (Jl H (.fz zP) fun it h1 H1=>⟨g,it,.itL P 0,fun hp l=>Paired (Zx hp) l (ps.map sw),Zt _,rfl,rfl,H1,fun acc E gE h' st ef H'=>cd_turn hh H' (zP.stay st) (Un (fun a b z=>z.mono st) pP) (by exact q2 ‹_› (by decide)),fun g' l h' acc hP st fo H'=>?_⟩)) (by kernel_rfl)
 ·exact⟨dk,by kernel_rfl,dk,by kernel_rfl,dk,dk,dk⟩
 ·obtain⟨g1,k1,f1,H1,z1⟩:=H'.solid
  exact cont g1 acc l h' (Zc st k1) (f1.trans (fo.trans hg)) z1 (Un (fun a b z=>z.mono k1) hP) H1
theorem law_14 {TN LE : Addr}{tvs : List Value}{lsp : Sp}{qs : List (Int × Int)}{v0 v1 v2 v3 v4 v5 v6 v7 v8 sz fi so le od pa : Option Value}(hA : Rm A 20) (hh : A.handled=none) (FA : FR A [L]) (hg : g.fo=[]) (h9 : qs.length≤9) (zT : At g.hp TN (.li tvs)) (pT : Paired (Zx g.hp) tvs qs)
 (H : Led c (eL L) g Y8 [v0,v1,v2,v3,v4,v5,v6,v7,v8,some (.ref TN),none] (LA L ++ [LE]) (LO t sz fi so le od pa ++ [lsp]) h)
 (cont : ∀ (g' : Bas) (BK : Addr) (ord : List Int) (bvs : List Value) (h' : Heap),g.hp.StaysIn g'.hp→g'.fo=[]→Jk qs ord→At g'.hp BK (.li bvs)→pI ord bvs →
  Led c (eL L) g' Y8 [v0,v1,v2,v3,v4,v5,v6,v7,v8,some (.ref TN),some (.ref BK)] (LA L ++ [LE]) (LO t sz fi so le od pa ++ [lsp]) h'→W c A (execs (bL 15) (eL L)) Q noX h') : W c A (execs (bL 14) (eL L)) Q noX h:=by
 refine Yg lb14 ?_
 refine Zz ?_
 refine Yl H (Xm (by rfl) n_ord) k_ord (Zq H (Za 9 rfl rfl) (Zd ⟨H.kin,Zh (order_ok (hA.mono (by decide)) hh (by rw[Vu hg];exact FA) H zT pT (by exact q2 ‹_› (by decide))) ?_ fun o_ o_ q=>q⟩))
 rintro o_ h1 ⟨ord,us,a,rfl,hJ,po,H1⟩
 obtain⟨g1,k1,f1,H2,za⟩:=H1.solid
 exact Zp 10 rfl rfl H2 fun h2 H3=>cont g1 a ord us h2 k1 (f1.trans hg) hJ za po H3
theorem law_15 {b0 : Heap}{PL TN BK LE : Addr}{plv tvs bvs lvs : List Value}{ps : List (Int × Int)}{T ord bk : List Int}{tw : Tok}{v0 v1 v2 v3 v5 v6 v8 sz fi so od pa : Option Value}(hb0 : b0.StaysIn g.hp) (hA : Rm A 20) (hh : A.handled=none) (FA : FR A [L]) (hg : g.fo=[]) (h5 : 5≤ps.length) (h9 : ps.length≤9) (hpos : ∀ p∈ps,0≤p.1∧0≤p.2) (hJ : Jk ps ord) (hB : Jk (ps.map sw) bk) (hTl : T.length=2 ^ ps.length) (hT : LT ps ps.length (fun S=>T.getD S 0) (2 ^ ps.length)) (pT : pI T lvs)
 (zL : At g.hp PL (.li plv)) (pL : pI (Ju ps.length) plv) (zT : At g.hp TN (.li tvs)) (pTn : Paired (Zx g.hp) tvs (ps.map sw)) (zB : At g.hp BK (.li bvs)) (pB : pI bk bvs)
 (H : Led c (eL L) g Y8 [v0,v1,v2,v3,some (.ref PL),v5,v6,some (.int (jf (0,0) (oq ps ord)) tw),v8,some (.ref TN),some (.ref BK)] (LA L ++ [LE]) (LO tS sz fi so (some (.ref LE)) od pa ++ [.li lvs]) h) : W c A (execs (bL 15) (eL L)) (QL b0) noX h:=by
 have hp:=Mu hJ
 have hpb:=Mu hB
 have hsl : (ps.map sw).length=ps.length:=List.length_map ..
 rw[hsl] at hpb
 have hbl : bk.length=ps.length:=by rw[hpb.length_eq];simp
 have h2:=Nat.two_pow_pos ps.length
 have h512:=Vh h9
 have hll:=Zu pT
 have hpne : ps≠[]:=fun q=>by rw[q] at h5;simp at h5
 have full : T.getD (2 ^ ps.length - 1) 0=jf (0,0) (oq ps ord):=by
  rw[Sa]
  exact hT.full (Sk hp) (by rw[← Sa];exact jo_pair hJ)
 have mir : jf (0,0) (oq (ps.map sw) bk)=jf (0,0) (oq ps ord):=by
  rw[Sa,Sa]
  exact mirror_eq hpne hpos (Sk hp) (by rw[← Sa];exact jo_pair hJ) (Sk hpb) (by rw[← Sa];exact jo_pair hB)
 obtain⟨xs,w,hxw⟩ : ∃ xs w,lvs=xs ++ [w]:=⟨lvs.dropLast,lvs.getLast (fun q=>by rw[q,List.length_nil] at hll;exact Nat.ne_of_gt h2 (hTl.symm.trans hll)),(List.dropLast_concat_getLast _).symm⟩
 have hw : isI (jf (0,0) (oq ps ord)) w:=by
  obtain⟨u,eu,hu⟩:=Yn pT (i:=2 ^ ps.length - 1) (x:=T.getD (2 ^ ps.length - 1) 0) (by rw[List.getD_eq_getElem?_getD,Nc (by rw[hTl];exact Nat.sub_lt h2 Nat.one_pos)];rfl)
  have hxl : xs.length=2 ^ ps.length - 1:=by rw[hxw,List.length_append,List.length_singleton] at hll;exact Nat.eq_sub_of_add_eq (hll.symm.trans hTl)
  rw[hxw,← hxl,List.getElem?_append_right (Nat.le_refl _),Nat.sub_self] at eu
  cases eu
  rw[← full];exact hu
 have hxl : xs.length < 100000:=by rw[hxw,List.length_append,List.length_singleton] at hll;exact Nat.lt_of_succ_le (S7 (S9 (hll.symm.trans hTl)) (S7 h512 (by decide)))
 rw[hxw] at H
 refine Yg lb15 ?_
 refine w_ret (w_and3 ?_)
 refine (ev_cmp (Zj 7 rfl rfl) ((ev_last (Xv (by rfl) (by rfl) (.ld 4 rfl rfl)) (Sb ev_i) (.ld 7 rfl rfl) hxl).mono fun v e=>e ▸ hw) Sd : EV c _ _ _ _ _ _ _ _ _).run H fun v hv=>⟨by rw[hv];simp,?_⟩
 refine w_cmp (Xj H (Zr (by rfl) Sj PyProof.Rows.boot_sorted) (Zq H (Za 10 rfl rfl) (Zd (c_sorted H (.fz zB) pB (by exact q6 ‹_› ‹_› (by decide)) fun D ms' us' h1 p1 q1 s1 H1=>?_))))
 refine (Za 4 rfl rfl : EV c _ _ _ _ _ _ _ _ _).eq H1 (c_eqI (hA.mono (by decide)) H1 (.ld 8 rfl rfl) (.fz zL) p1 pL ⟨by rw[decide_eq_true (Tc le_anti (q1.trans hpb) s1 (upto_le _))],?_⟩)
 refine w_cmp (Yl H1 (Xm (by rfl) n_clk) k_clk (Zq H1 (Za 10 rfl rfl) (Zq H1 (Za 9 rfl rfl) (Zd ⟨H1.kin,Zh (clock_ok (hA.mono (by decide)) hh (by rw[Vu hg];exact FA) H1 zB pB (hpb.nodup_iff.mpr (upto_nd _)) (by lia) (by exact q6 ‹_› ‹_› (by decide)) zT pTn (fun i hi=>by rw[hsl];exact Tq _ i (hpb.mem_iff.mp hi)) (fun p hp=>?_) (by exact q6 ‹_› ‹_› (by decide))) ?_ fun o_ o_ q=>q⟩))))
 ·obtain⟨q,hq,rfl⟩:=Ng hp
  exact (hpos q hq).symm
 rintro o_ h3 ⟨⟨t3,rfl⟩,H3⟩
 rw[EB_full,mir]
 refine (Za 7 rfl rfl : EV c _ _ _ _ _ _ _ _ _).eq H3 ?_
 refine Jy (R:=fun v=>v=.bool (jf (0,0) (oq ps ord) == jf (0,0) (oq ps ord))) (Sd h3 H3 _ _ ⟨_,rfl⟩ ⟨_,rfl⟩) fun v hv=>?_
 obtain⟨o,eo,ps',rfl⟩:=H3.at_ 0 906 _ rfl rfl
 exact⟨by show v=.bool true;rw[hv];simp,Zc hb0 H3.keep,ps',eo⟩
end
section
variable {L : Addr}
theorem law_all {l : Addr}{svs : List Value}{ks : List Int}{mg : Str→Option Value}(hA : Rm A 20) (hh : A.handled=none) (FA : FR A [L]) (hg : g.fo=[]) (hmg : c.b.Ns mainGlobals mg) (hbm : c.b.BuiltinsAt mg 906)
 (H : Led c (eL L) g Y8 [some (.ref l),none,none,none,none,none,none,none,none,none,none] (LA L) (LO (.ob (tabObj #[])) none none none none none none) h) (z : At g.hp l (.li svs)) (pk : pI ks svs) (hk : ks.length < 1000) : W c A (execs (fnB (st 37)) (eL L)) (QL g.hp) noX h:=by
 refine law_0 hA hh FA hg H z pk hk fun n ev ms g1 rw rvs tt h1 h5 h9 hl hm k1 f1 H1 z1 p1=>?_
 refine law_1 hA hh FA f1 h5 h9 hl hm H1 fun g2 rs r2 v2 h2 k2 f2 H2 z2 p2=>?_
 refine law_2 hA h9 hl hm H2 (z1.stay k2) (Jm (fun r v x=>x.mono k2) p1) z2 p2 ?_
 refine law_3 hA hh f2 h9 hl hm H2 z2 p2 fun g3 P pvs h3 k3 f3 H3 zP pP=>?_
 have hpos:=ps_pos hl hm
 have hps:=ps_len n ms
 generalize psOf n ms=ps at *
 subst hps
 refine law_4 hA hh f3 h9 H3 zP pP fun g4 PL SZ HP plv szv h4 k4 f4 zL pL zS pS H4=>?_
 have hsz:=sz_len ps
 refine law_5 (P:=P) hA hh f4 (by rw[hsz];exact yl h9 (by decide)) zS pS H4 fun g5 xs vk h5' k5 f5 hx H5=>?_
 refine law_6 hA hh FA f5 hmg hbm (by rw[hsz];exact S7 (by decide) (Nat.mul_le_mul_left 2 h5)) (by rw[hsz];exact yl h9 (by decide)) (zS.stay k5) pS hx H5 fun g6 h6 k6 f6 H6=>?_
 have k46:=Zc k4 (Zc k5 k6)
 have k56:=Zc k5 k6
 refine law_7 hA hh FA f6 h9 (zP.stay k46) (Un (fun a b z=>z.mono k46) pP) H6 fun g7 O ord ovs h7 k7 f7 hJ zO pO H7=>?_
 have k57:=Zc k56 k7
 have k47:=Zc k46 k7
 refine law_8 hA f7 h9 hJ zO pO (zL.stay k57) pL H7 fun h8 H8=>?_
 have zP7:=zP.stay k47
 have pP7:=Un (fun a b (z : Zx g3.hp a b)=>z.mono k47) pP
 have zL7:=zL.stay k57
 refine law_9 hA hh FA f7 h5 h9 hpos hJ zO pO zP7 pP7 H8 fun tw h9' H9=>?_
 refine law_10 hA hh f7 h5 h9 hpos hJ zO pO zP7 pP7 zL7 pL H9 fun g10 h10 k10 f10 H10=>?_
 refine law_11 H10 fun LE tz h11 H11=>?_
 refine law_12 hA hh f10 h5 h9 (zP7.stay k10) (Un (fun a b z=>z.mono k10) pP7) (zL7.stay k10) pL H11 fun g12 T lvs v8 fi so h12 k12 f12 hTl hT pT H12=>?_
 have ka:=Zc k10 k12
 refine law_13 hh f12 h9 (zP7.stay ka) (Un (fun a b z=>z.mono ka) pP7) H12 fun g13 TN tvs h13 k13 f13 zT pTn H13=>?_
 refine law_14 hA hh FA f13 (by rw[List.length_map];exact h9) zT pTn H13 fun g14 BK bk bvs h14 k14 f14 hB zB pB H14=>?_
 exact law_15 (Zc k1 (Zc k2 (Zc k3 (Zc k47 (Zc ka (Zc k13 k14)))))) hA hh FA f14 h5 h9 hpos hJ hB hTl hT pT (zL7.stay (Zc ka (Zc k13 k14))) pL (zT.stay k14) (Un (fun a b z=>z.mono k14) pTn) zB pB H14
end
theorem law_top {c : Cx}{A : Around}{h : Heap}{l : Addr}{svs : List Value}{ks : List Int}{mg : Str→Option Value}{X : Value→Heap→Prop}(hA : Rm A 21) (hh : A.handled=none) (FA : FR A []) (hbs : Bs c c.b) (hlow : ∀ b o,c.b.get? b=some o→h.get? b=some o) (hT : c.b.get? 906=none) (hTh : h.get? 906=some (tabObj #[])) (hl : c.b.objs.size≤h.objs.size)
 (hmg : c.b.Ns mainGlobals mg) (hbm : c.b.BuiltinsAt mg 906) (hne : l≠906) (z : At h l (.li svs)) (pk : pI ks svs) (hk : ks.length < 1000) : W c A (call (.ref 909) [.ref l]) (fun v h'=>v=.bool true∧(∀ b o,b≠906→h.get? b=some o→h'.get? b=some o)∧∃ ps,h'.get? 906=some (tabObj ps)) X h:=Xy fun kk=>by
 have hkin : (K c.w.params).In h:=fun a o e=>hlow _ _ (hbs.kin a o e)
 have hbsh : Bs c h:=hbs.mono hlow
 refine codeAny_call_cells (s:=stt c h kk) (fd:=fdLW) (body:=fnB (st 37)) (binds:=[(Str.ofString "script",.ref l)]) hA.depth (hkin _ _ (M6.obj _)) rfl hbsh.lim (codeRec_of hkin (M6.code _)) M6.body (B_lw _) M6.clo (fun x hx=>?_) (fun s1 hi=>?_) M6.co M6.gen M6.knd
 ·rw[List.mem_singleton] at hx;subst hx;exact .inl (by kernel_rfl)
 have e1 : (callEnvC fdLW h.objs.size 909).cells=cfLW h.objs.size:=M6.cfe _
 obtain⟨⟨same,hn,hkp,fresh⟩,hcell,hap,hab⟩:=hi
 have okk : Okk c s1:=by obtain⟨hh,tk,rfl⟩:=same;exact⟨rfl,rfl,rfl⟩
 have e2 : (stt c h kk).heap=h:=rfl
 rw[e2] at hcell hn hab hap hkp
 rw[e1] at hcell hap hab
 have hL : bindL (fun x=>fdLW.scope.names.lookup x) [(Str.ofString "script",Value.ref l)] (fun o_=>none)=Ja Y8 [some (.ref l),none,none,none,none,none,none,none,none,none,none]:=
  Sy (ps:=["script"]) (rs:=["due","text","rows","places","heap","k","whole","done","turned","back"]) (xs:=[.ref l]) rfl M6.nd (fun x hx=>M6.kinds x (by rw[List.mem_singleton] at hx;subst hx;exact .head _))
 have g906 : (hideAll h [906]).get? 906=none:=hideAll_none _ (.head _)
 have lt906 : (906 : Nat) < h.objs.size:=Heap.lt_size hTh
 have big : (hideAll h [906]).get? h.objs.size=none:=by
  cases q : (hideAll h [906]).get? h.objs.size with
  | none=>rfl
  | some o=>exact absurd (Heap.lt_size (of_hideAll _ q)) (Nat.lt_irrefl _)
 have L1 : Led c (eL h.objs.size) ⟨hideAll h [906],[]⟩ Y8 [some (.ref l),none,none,none,none,none,none,none,none,none,none] [906] [.ob (tabObj #[])] s1.heap:=by
  refine⟨M6.eo _,hbs,⟨by rw[← hL];exact hn,fun b o e=>hkp _ _ (hlow _ _ e),hl⟩,fun b o e=>hideAll_get _ (hlow _ _ e) (fun q=>by rw[List.mem_singleton] at q;rw[q,hT] at e;cases e),fun b o e=>hkp _ _ (of_hideAll _ e),big,(fun p hp=>nomatch hp),by simp[Bas.fs],(fun a ha=>nomatch ha),(fun a ha=>nomatch ha),rfl,by simp,?_,(fun a ha=>by rw[List.mem_singleton] at ha;subst ha;exact g906),fun i a o ea eo=>?_⟩
  ·rw[List.mem_singleton];exact Nat.ne_of_gt lt906
  ·cases i with
   | zero=>cases ea;cases eo;exact⟨_,hkp _ _ hTh,rfl⟩
   | succ i=>cases ea
 have L2:=Led.adds ((cfLW h.objs.size).map fun p=>(p.2,Sp.ce (bindC (fun x=>fdLW.scope.names.lookup x) [(Str.ofString "script",.ref l)] (fun o_=>none) p.1))) L1 (fun q hq=>?_) ?_
 ·have ec : ((cfLW h.objs.size).map fun p=>(p.2,Sp.ce (bindC (fun x=>fdLW.scope.names.lookup x) [(Str.ofString "script",Value.ref l)] (fun o_=>none) p.1))).map (·.2)=[.ce none,.ce none,.ce none,.ce none,.ce none,.ce none]:=by kernel_rfl
  rw[ec] at L2
  have zl : At (⟨hideAll h [906],[]⟩ : Bas).hp l (.li svs):=z.mono fun o e=>hideAll_get _ e (fun q=>hne (List.mem_singleton.mp q))
  have FO1:=FA.deep (env':=callEnvC fdLW h.objs.size 909) M6.knd rfl
  refine wpAny_mono (Zy (law_all (hA.deep _) hh FO1.toFR rfl hmg hbm L2 zl pk hk) okk) (fun fl s' q=>?_) fun o_ o_ q=>q.2.elim
  obtain⟨q0,q1,q2,q3⟩:=q
  have q2' : ∀ b o,b≠906→h.get? b=some o→s'.heap.get? b=some o:=fun b o hb e=>q2 _ _ (hideAll_get _ e (fun q=>hb (List.mem_singleton.mp q)))
  cases fl <;> exact⟨q0,q1,q2',q3⟩
 ·obtain⟨p,hp,rfl⟩:=Ng hq
  have hlt : h.objs.size < p.2:=hab p.1 p.2 hp
  refine⟨hcell p.1 p.2 (Tg (M6.cfn _) hp),fun q=>?_,?_,(fun q=>nomatch q),?_⟩
  ·have q : p.2=906:=List.mem_singleton.mp q
   rw[q] at hlt;exact absurd (S8 lt906 hlt) (Nat.lt_irrefl _)
  ·show p.2≠h.objs.size;exact Nat.ne_of_gt hlt
  ·cases q : (⟨hideAll h [906],[]⟩ : Bas).hp.get? p.2 with
   | none=>rfl
   | some o=>exact absurd (Heap.lt_size (of_hideAll _ q)) (Nat.not_lt_of_gt hlt)
 ·exact List.pairwise_map.mpr (hap.imp fun hh=>hh)
theorem n_lawf (P : Params) : nsIn (K P) mainGlobals "law"=some (some (.ref 909)):=by kernel_rfl
theorem k906 (P : Params) : (K P).lookup 906=none:=by kernel_rfl
theorem in_hide {P : Params}{h : Heap}(X : (K P).In h) : (K P).In (hideAll h [906]):=fun a o e=>hideAll_get _ (X a o e) (fun q=>by
 rw[List.mem_singleton] at q;rw[q,k906] at e;cases e)
theorem Mp {h : Heap}{a : Addr}{m : Str→Option Value}(x : h.Ns a m) (ha : a≠906) : (hideAll h [906]).Ns a m:=x.at fun o e=>hideAll_get _ e (fun q=>ha (List.mem_singleton.mp q))
theorem tab_code {P : Params}{h : Heap}(X : (K P).In h) : isCodeTable h 906:=⟨908,o908 P,_,X _ _ (by kernel_rfl),rfl,rfl,rfl⟩
theorem law_run {w : World}{s : Shared}{p : Program}{loose : List Str}{mean : ExcName→Option Value}{mg mb : Str→Option Value}{l : Addr}{svs : List Value}{ks : List Int}(hg : s.gens=#[]) (X : (K w.params).In s.heap) (hT : s.heap.get? 906=some (tabObj #[])) (T : Top p loose mean mg mb s.heap)
 (z : s.heap.get? l=some { cls:=.type "list",data:=.seq svs.toArray }) (hi : IntsAre svs ks) (hk : ks.length < 1000) :
 wpAny (model prg w) callerA (call (.ref 909) [.ref l]) (fun v s'=>v=.bool true∧s'.gens=#[]∧s'.os=s.os∧OldK s.heap s'.heap) (fun o_ o_=>False) s:=by
 have es : s=stt ⟨w,s.drawn,s.os,hideAll s.heap [906]⟩ s.heap s.toks:=by cases s;cases hg;rfl
 obtain⟨mc,hc1,hc2⟩:=T.nolimit
 obtain⟨md,hd1,hd2⟩:=T.nodigits
 obtain⟨bm,ob,b1,b2,b3,b4,b5,b6⟩:=T.bmain
 have hbG : bm≠mainGlobals:=fun q=>by
  obtain⟨o,es,ep,e,hd,o_⟩:=T.g
  rw[q,e] at b3;cases b3;rw[hd] at b6;cases b6
 have hbT : bm≠906:=fun q=>by rw[q,hT] at b3;cases b3;cases b4
 have hl : l≠906:=fun q=>by rw[q,hT] at z;cases z
 have hbs : Bs ⟨w,s.drawn,s.os,hideAll s.heap [906]⟩ (hideAll s.heap [906]):=⟨in_hide X,⟨mc,Mp hc1 (by decide),hc2⟩,⟨md,Mp hd1 (by decide),hd2⟩,⟨mb,Mp T.b (by decide),T.builtins⟩,⟨mg,Mp T.g (by decide)⟩⟩
 have key:=law_top (c:=⟨w,s.drawn,s.os,hideAll s.heap [906]⟩) (A:=callerA) (X:=noX) (l:=l) (h:=s.heap) ⟨by decide,by decide⟩ rfl ⟨[],rfl,fun x hx=>nomatch hx⟩ hbs (fun b o e=>of_hideAll _ e) (hideAll_none _ (.head _)) hT (S9 (hideAll_size _ _)) (Mp T.g (by decide))
  ⟨bm,ob,b1,b2,hbG,hbT,hideAll_get _ b3 (fun q=>hbT (List.mem_singleton.mp q)),b4,b5,b6⟩ hl ⟨_,z,0,rfl⟩ (pI.of hi) hk s.toks
 rw[← es] at key
 refine wpAny_mono key (fun v s' q=>?_) fun o_ o_ q=>q.2.elim
 obtain⟨⟨o1,o2,o3⟩,rfl,q1,ps,q2⟩:=q
 refine⟨rfl,o1,o3,fun b o e=>?_,fun b o e=>?_⟩
 ·by_cases hb : b=906
  ·subst hb
   rw[hT] at e;cases e
   exact .inr (.inl ⟨tab_code X,rfl,#[],ps,rfl,by rw[Array.empty_append];exact q2⟩)
  ·exact .inl (q1 b o hb e)
 ·by_cases hb : b=906
  ·subst hb;exact⟨_,q2⟩
  ·exact⟨o,q1 b o hb e⟩
set_option maxHeartbeats 8000000 in
theorem fin0 : PySem.Challenge.rw_dn0072_05.Holds:=by
 refine holds_law said fun rs=>holds_open (q:=q37) (loose:=loose37) (Xt:=fun o_=>true) (XP:=fun o_ o_=>True)
  (YP:=fun w h=>(K w.params).In h∧h.get? 906=some (tabObj #[])) (N:=12200) leftX ?hY ?hYk (fun o_ o_=>trivial) (fun o_ o_ o_ o_ o_=>trivial) (by rfl) (by rfl) (by rfl) (fun s e=>recFacts_nil rfl) rfl rs dk ⟨rfl,rfl,rfl,rfl,rfl,dk⟩ ?hw ?hc
 case hY=>exact fun w s e=>⟨Frag.in_of (K_as _) (Prod.mk.inj e).1,(List.cons.inj (Prod.mk.inj e).2).1⟩
 case hYk=>exact fun w h h' x k=>⟨x.1.keeps k,k _ _ x.2⟩
 case hw=>w_witness2
 case hc =>
  intro w s0 s1 mg mb G Y fa o pm cd doc dV kV ho hd hcd hD hmg hg args vals as hpre hlay hrd hwl hlo
  refine Ground.open G ?_
  intro T B D TE TW
  have efa : (some (.ref 909) : Option Value)=some (.ref fa):=(mg_of Y.1 T.g (n_lawf _)).symm.trans hmg
  clear hd hcd hD ho B D TE TW hmg G
  cases efa
  wrow_args hpre hlay hrd hwl hlo
  rename_i ks _ _ _ _ _ _ _ l svs _ hL _ hw _ hI _ hc _
  obtain⟨hz,hI2⟩ : ∃ (_ : s1.heap.get? l=some { cls:=.type "list",data:=.seq svs.toArray }),True:=by
   obtain⟨o',e',hc',n',hd'⟩:=hL
   have hw' : Well w.params s1.heap (.ref l) (.list (ofPys (ks.map PyData.int))):=hw
   cases hw' with
   | list e2 _ =>
    rw[e'] at e2;cases e2
    cases hd'
    exact⟨e',trivial⟩
  refine wpAny_mono (law_run hg Y.1 Y.2 T hz hI (by omega)) (fun v s' q=>?_) fun o_ o_ q=>q.elim
  obtain⟨rfl,q1,q2,q3⟩:=q
  refine⟨.inl ⟨.bool true,.bool true,[],rfl,raisesW_false ?_,.bool true,?_,unshared_nil⟩,q3,q2,.of_eq q1⟩
  ·wrow_none_raised
  ·wrow_post
end Mine
theorem PySem.Challenge.cw_dn0072_05_holds : PySem.Challenge.rw_dn0072_05.Holds :=
  Mine.fin0
