import PyProof.Rows.All
import Wide.All
import OpenK.AllK
import Wide.FinOn
import PySem.Challenge.RW_jc0018_01
set_option Elab.async false
set_option linter.all false
set_option bootstrap.genMatcherCode false
set_option genSizeOf false
set_option genSizeOfSpec false
set_option genInjectivity false
set_option compiler.extract_closed false
section
open PySem PySem.W PyProof.Rows PySem.Calls PySem.Spec
set_option autoImplicit false
namespace Mine
theorem hid {P:Prop} (h:∀ G:Prop,(P→G)→G):P:=h P id
theorem aC1 {A B : Type _} {a : A} {f : A → Option B} : (some a).bind f = f a := rfl
theorem bO9 {A B : Type _} {a : A} {f : A → B} : (some a).map f = some (f a) := rfl
theorem cl {a b:Nat} (h:Nat.ble a b=true):a≤b:=Nat.le_of_ble_eq_true h
theorem aA9 {a b c:Nat} (h:a≤b) (g:b≤c):a≤c:=Nat.le_trans h g
theorem aM7 {a b c:Nat} (h:a < b) (g:b≤c):a < c:=Nat.lt_of_lt_of_le h g
theorem aL3 {a b c:Nat} (h:a≤b) (g:b < c):a < c:=Nat.lt_of_le_of_lt h g
theorem bL8 {a b:Nat} (h:a < b):a≤b:=Nat.le_of_lt h
theorem q_s {a b:Nat} (h:a < b):a+1≤b:=h
theorem bQ7 {a b:Nat} (h:a+1≤b):a < b:=h
theorem dJ5 {a b:Nat} (h:a≤b):a < b+1:=Nat.lt_succ_of_le h
theorem eS1 {a b:Nat} (h:a < b+1):a≤b:=Nat.le_of_lt_succ h
theorem aO0 {a b:Nat} (h:a≤b):a≤b+1:=Nat.le_succ_of_le h
theorem dV2 {a:Nat}:0 < a+1:=Nat.succ_pos a
theorem dV6 {a b:Nat} (h:a=b):a≤b:=Nat.le_of_eq h
theorem dA7 {a b:Nat} (h:b=a):a≤b:=Nat.le_of_eq h.symm
theorem cL0 {a:Nat}:a≤a:=Nat.le_refl a
theorem dO7 {a b:Nat} (h:a < b):0 < b:=Nat.zero_lt_of_lt h
theorem dZ0 {a b:Nat} (h:a < b):b - 1 < b:=Nat.sub_lt (Nat.zero_lt_of_lt h) Nat.one_pos
theorem eO2 {a b c:Nat} (h:a < b):b - 1 - c < b:=Nat.lt_of_le_of_lt (Nat.sub_le _ _) (dZ0 h)
theorem eK1 {a b:Nat} (h:a < b):a - 1 < b:=Nat.lt_of_le_of_lt (Nat.sub_le _ _) h
theorem bB7 {a b c:Nat} (h:a+b≤c):a≤c:=Nat.le_trans (Nat.le_add_right _ _) h
theorem bH6 {a b c:Nat} (h:a+b < c):a < c:=Nat.lt_of_le_of_lt (Nat.le_add_right _ _) h
theorem bR0 {a b c:Nat} (h:a+b < c):b < c:=Nat.lt_of_le_of_lt (Nat.le_add_left _ _) h
theorem dV3 {a b:Nat}:a≤a+b:=Nat.le_add_right a b
theorem dV5 {a b:Nat}:b≤a+b:=Nat.le_add_left b a
theorem dO6 {a b c:Nat} (h:a≤b):a≤b+c:=Nat.le_add_right_of_le h
theorem eK5 {a b c:Nat} (h:a≤c):a≤b+c:=Nat.le_trans h (Nat.le_add_left c b)
theorem bL9 {a b c d:Nat} (h:a≤b) (g:c≤d):a+c≤b+d:=Nat.add_le_add h g
theorem bJ3 {a b c:Nat} (h:a≤b):a+c≤b+c:=Nat.add_le_add_right h c
theorem cA8 {a b c:Nat} (h:a≤b):c+a≤c+b:=Nat.add_le_add_left h c
theorem aX4 {a b c d m:Nat} (h:a≤b) (g:c≤d) (t:Nat.ble (b+d) m=true):a+c≤m:=Nat.le_trans (Nat.add_le_add h g) (cl t)
theorem dV4 {a b c d m:Nat} (h:a≤b) (g:c≤d) (t:Nat.ble (b*d) m=true):a*c≤m:=Nat.le_trans (Nat.mul_le_mul h g) (cl t)
theorem cA7 {a b c:Nat} (h:a≤c):a - b≤c:=Nat.le_trans (Nat.sub_le a b) h
theorem dZ2 {a b c:Nat} (h:a≤b):a - c≤b - c:=Nat.sub_le_sub_right h c
theorem cF8 {l n f c:Nat} (h:l < n) (g:n≤c):l+1 - f≤c:=Nat.le_trans (Nat.sub_le _ _) (Nat.le_trans h g)
theorem eO1 {a b:Nat} (h:a≤b):a - b=0:=Nat.sub_eq_zero_of_le h
theorem dO5 {a b:Nat} (h:a - b=0):a≤b:=Nat.le_of_sub_eq_zero h
theorem cO6 {f k m:Nat} (h1:f≤k) (h2:k < f+(m - f)):k < m:=by
 by_cases q:f≤m
 ·rwa [Nat.add_sub_of_le q] at h2
 ·rw [Nat.sub_eq_zero_of_le (Nat.le_of_not_le q)] at h2;exact absurd h2 (Nat.not_lt_of_le h1)
theorem dY9 {f k l:Nat} (h1:f≤k) (h2:k < f+(l+1 - f)):k≤l:=Nat.le_of_lt_succ (cO6 h1 h2)
theorem bW4 {f k l n:Nat} (h1:f≤k) (h2:k < f+(l+1 - f)) (h:l < n):k < n:=Nat.lt_of_le_of_lt (dY9 h1 h2) h
theorem eO4 {a b k:Nat} (h1:a≤b) (h2:k≤b):k < a+(b+1 - a):=by rw [Nat.add_sub_of_le (Nat.le_succ_of_le h1)];exact Nat.lt_succ_of_le h2
theorem eT5 {f l j n:Nat} (h:f≤l) (h2:l < n) (h3:j < l+1 - f):f+j < n:=Nat.lt_of_lt_of_le (Nat.add_lt_of_lt_sub' h3) h2
theorem eT2 {m n j:Nat} (h:j < n - m):m+j < n:=Nat.add_lt_of_lt_sub' h
theorem cO8 {i a:Nat} (h:i < a):a+1 - (i+1) < a+1 - i:=Nat.sub_lt_sub_left (Nat.lt_succ_of_lt h) (Nat.lt_succ_self i)
theorem dP1 {a b:Nat} (h:a≤b):a+(b - a)=b:=Nat.add_sub_of_le h
theorem eK6 {a b:Nat} (h:a < b):a+(b - a)=b:=Nat.add_sub_of_le (Nat.le_of_lt h)
theorem cO5 {a b:Nat} (h:a≤b):b+1 - a=b - a+1:=Nat.succ_sub h
theorem dZ4 {a b:Nat}:a+b - a=b:=Nat.add_sub_cancel_left _ _
theorem dY7 {a b c:Nat} (h:a≤b) (g:b≤c):b - a+(c - b)=c - a:=by rw [Nat.add_comm,Nat.sub_add_sub_cancel g h]
theorem eJ9 {l n:Nat} (h:l < n):n=l+1+(n - 1 - l):=by rw [Nat.sub_sub,Nat.add_comm 1 l];exact (Nat.add_sub_of_le h).symm
theorem eR4 {k n:Nat} (h:k < n):n=k+1+(n - (k+1)):=(Nat.add_sub_of_le h).symm
theorem eG9 {k n:Nat} (h:k+1≤n):n - k=n - (k+1)+1:=(Nat.succ_sub_succ_eq_sub n k).symm.trans (Nat.succ_sub h)
theorem eR6 {k n:Nat} (h:k < n):n - k=1+(n - (k+1)):=(eG9 h).trans (Nat.add_comm _ _)
theorem eR5 {k n:Nat} (h:k < n):n - (k+1)+1=n - k:=(eG9 h).symm
theorem eR1 {i n:Nat} (h:i < n):n+1 - i=n+1 - (i+1)+1:=eG9 (Nat.succ_le_succ (Nat.le_of_lt h))
theorem cO7 {i n:Nat} (h:i≤n) (g:¬ i < n):i=n:=Nat.le_antisymm h (Nat.le_of_not_lt g)
theorem dZ1 {a b:Nat} (h:¬ a < b):b≤a:=Nat.le_of_not_lt h
theorem bQ9 {a b:Nat} (h:b≤a):¬ a < b:=Nat.not_lt_of_le h
theorem dP0 {a b:Nat} (h:b < a):¬ a≤b:=Nat.not_le_of_lt h
theorem dO9 {a b:Nat} (h:a < b):a≠b:=Nat.ne_of_lt h
theorem dA6 {a b:Nat} (h:a < b):b≠a:=Nat.ne_of_gt h
theorem eO3 {a:Nat} (h:a≠0):0 < a:=Nat.pos_of_ne_zero h
theorem aV7 {p q:Prop} (h:p) (g:q):p∧q:=⟨h,g⟩
theorem eK4 {a b:Nat} (h:a≤b):min a b=a:=Nat.min_eq_left h
theorem eK3 {a b c:Nat} (h:a≤c):min a b≤c:=Nat.le_trans (Nat.min_le_left a b) h
theorem dZ3 {a b c:Nat} (h:b≤c):min a b≤c:=Nat.le_trans (Nat.min_le_right a b) h
theorem dY8 {a b c:Nat} (e:a=b) (h:b≤c):a≤c:=e ▸ h
theorem bQ8 {a b c:Nat} (e:a=b) (h:b < c):a < c:=e ▸ h
theorem bW3 {a b c:Nat} (e:c=b) (h:a < b):a < c:=e ▸ h
theorem eJ8 {a b c:Nat} (e:b=c) (h:a < b):a < c:=e ▸ h
theorem eM1 {a b:Nat} (h:a < b):(a:Int) < (b:Int):=Int.ofNat_lt.mpr h
theorem cX3 {a b:Nat} (h:a≤b):(a:Int)≤(b:Int):=Int.ofNat_le.mpr h
theorem eP3 {a b:Nat} (h:(a:Int) < (b:Int)):a < b:=Int.ofNat_lt.mp h
theorem eV8 {a b:Nat} (h:(a:Int)≤(b:Int)):a≤b:=Int.ofNat_le.mp h
theorem dE4 {k m:Nat} {c:Int} (h:k≤m) (d:decide ((m:Int) < c)=true):(k:Int) < c:=Int.lt_of_le_of_lt (Int.ofNat_le.mpr h) (of_decide_eq_true d)
theorem cX4 {k m:Nat} {c:Int} (h:k < m) (d:decide ((m:Int)≤c)=true):(k:Int) < c:=Int.lt_of_lt_of_le (Int.ofNat_lt.mpr h) (of_decide_eq_true d)
theorem bA0 {k:Nat} {c:Int} (d:decide (c≤0)=true):c≤(k:Int):=Int.le_trans (of_decide_eq_true d) (Int.natCast_nonneg k)
theorem cI2 {a b c:Int} (h:a≤b) (g:b≤c):a≤c:=Int.le_trans h g
theorem dR8 {a b c:Int} (h:a < b) (g:b≤c):a < c:=Int.lt_of_lt_of_le h g
theorem bB8 {a b c:Int} (h:a≤b) (g:b < c):a < c:=Int.lt_of_le_of_lt h g
theorem i_l {a b:Int} (h:a < b):a≤b:=Int.le_of_lt h
theorem dR9 {a b:Int} (h:b≤a):¬ a < b:=Int.not_lt.mpr h
theorem dE3 {a b:Int} (h:b < a):¬ a≤b:=Int.not_le.mpr h
theorem eM0 {a b:Int} (h:¬ a < b):b≤a:=Int.not_lt.mp h
theorem eW0 {n:Nat}:((n:Int) - 0).toNat=n:=by rw [Int.sub_zero];rfl
theorem eV6 {n m:Nat}:((n:Int) - (m:Int)).toNat=n - m:=Int.toNat_sub n m
theorem eP6 {n:Nat}:((n:Int) - 1).toNat=n - 1:=Int.toNat_sub n 1
theorem eV7 {n:Nat}:((n:Int)+1).toNat=n+1:=rfl
theorem eP4 {n k:Nat}:((n:Int) - 1 - (k:Int)).toNat=n - 1 - k:=by rw [Int.sub_sub,Nat.sub_sub];exact Int.toNat_sub n (1+k)
theorem eL8 {n k m:Nat} (h:m < n):((n:Int) - 1 - (k:Int)).toNat < n:=eP4 ▸ eO2 h
theorem eL7 {n m:Nat} (h:m < n):((n:Int) - 1).toNat < n:=eP6 ▸ dZ0 h
theorem eP7 {n:Nat} (h:0 < n):(n:Int) - 1=((n - 1:Nat):Int):=(Int.ofNat_sub h).symm
theorem eW3 {n:Nat} (h:0 < n):-1+(n:Int)=((n - 1:Nat):Int):=(Int.add_comm _ _).trans (Int.ofNat_sub h).symm
theorem eW7 {n m:Nat} (h:m < n):(0:Int)≤(n:Int) - 1:=Int.sub_nonneg_of_le (Int.ofNat_le.mpr (dO7 h))
theorem eW4 {n:Nat}:(0:Int)≤(n:Int)+1:=Int.natCast_nonneg (n+1)
theorem eP2 {k:Int} {n:Nat} (h0:0≤k) (h1:k < (n:Int)):k.toNat < n:=(Int.toNat_lt h0).mpr h1
theorem eP5 {k:Int} {c:Nat} (h1:k≤(c:Int)):k.toNat≤c:=Int.toNat_le.mpr h1
theorem i_m3 {x:Nat}:x % 3=0∨x % 3=1∨x % 3=2:=(by decide:∀ r,r < 3→r=0∨r=1∨r=2) _ (Nat.mod_lt _ (by decide))
theorem eX1 {x:Nat}:(x:Int).fmod 3=0∨(x:Int).fmod 3=1∨(x:Int).fmod 3=2:=by
 have e:(x:Int).fmod 3=((x % 3:Nat):Int):=(Int.ofNat_fmod x 3).symm
 rw [e];exact i_m3.imp (congrArg _) (Or.imp (congrArg _) (congrArg _))
theorem eT3 {x:Nat}:x % 3 < 3:=Nat.mod_lt _ (by decide)
theorem cO9 {a b b' c:Nat} (h:a+b < c) (t:Nat.ble b' b=true):a+b' < c:=Nat.lt_of_le_of_lt (Nat.add_le_add_left (cl t) a) h
theorem eO5 {d l r:Nat} (h:d+10*(l+1+1) < r):d+10*(l+1) < r:=Nat.lt_of_le_of_lt (Nat.add_le_add_left (Nat.mul_le_mul_left 10 (Nat.le_succ _)) d) h
theorem eU6 {d l r:Nat} (h:d+10*(l+1+1) < r):d+1+10*(l+1) < r:=by
 rw [Nat.mul_succ,← Nat.add_assoc] at h
 rw [Nat.add_right_comm]
 exact cO9 h rfl
theorem eU5 {d l r:Nat} (h:d+10*(l+1) < r):d+10*(0+1) < r:=Nat.lt_of_le_of_lt (Nat.add_le_add_left (Nat.mul_le_mul_left 10 (Nat.succ_le_succ (Nat.zero_le l))) d) h
theorem eO0 {u l r:Nat} (h:u+100*(l+1) < r):u+100*l < r:=Nat.lt_of_le_of_lt (Nat.add_le_add_left (Nat.mul_le_mul_left 100 (Nat.le_succ _)) u) h
theorem eR7 {u v l r:Nat} (h:u+v+l < r) {w:Nat} (t:Nat.ble w v=true):u+w < r:=cO9 (bH6 h) t
theorem eK0 {f k l:Nat} (h2:k < f+1+(l - f)) (h1:f+1≤k):k≤l:=by
 by_cases q:f≤l
 ·rw [Nat.add_right_comm,Nat.add_sub_of_le q] at h2;exact Nat.le_of_lt_succ h2
 ·rw [Nat.sub_eq_zero_of_le (Nat.le_of_not_le q)] at h2;exact absurd h2 (Nat.not_lt_of_le h1)
theorem eS8 {l n:Nat} (h:l < n) (e:¬ l=n - 1):l+1 < n:=Nat.lt_of_le_of_ne h fun z=>e (z ▸ rfl)
theorem eS6 {n f x:Nat} (hn:n≤7) (hf:f < n) (h:x=7 - f):0 < x:=h ▸ Nat.sub_pos_of_lt (Nat.lt_of_lt_of_le hf hn)
theorem eS5 {f x c:Nat} (h:x=7 - f) (t:Nat.ble 7 c=true):x - 1≤c:=Nat.le_trans (Nat.sub_le _ _) (h ▸ Nat.le_trans (Nat.sub_le _ _) (cl t))
theorem eS4 {f x y:Nat} (h:x=7 - f) (e:y=x - 1):y=7 - (f+1):=by rw [e,h,Nat.sub_sub]
theorem eU1 {f l x:Nat} (h:f≤l) (g:x≤f*7+(l - f)+1):x≤f*7+(l+1 - f):=by rw [Nat.succ_sub h];exact g
theorem eU0 {f n x:Nat} (hn:n≤7) (g:x≤f*7+(n - f)):x≤(f+1)*7:=by
 rw [Nat.succ_mul];exact Nat.le_trans g (Nat.add_le_add_left (Nat.le_trans (Nat.sub_le _ _) hn) _)
theorem eU2 {f l n x c:Nat} (hn:n≤7) (hf:f < n) (hl:l < n) (h:x≤f*7+(l - f)) (t:Nat.ble 56 c=true):x≤c :=
 Nat.le_trans h (Nat.le_trans (Nat.add_le_add (Nat.mul_le_mul_right 7 (Nat.le_trans (Nat.le_of_lt hf) hn)) (Nat.le_trans (Nat.sub_le _ _) (Nat.le_trans (Nat.le_of_lt hl) hn))) (cl t))
theorem eR3 {n f x:Nat} (hn:n≤7) (h:x≤n - f):x≤7:=Nat.le_trans h (Nat.le_trans (Nat.sub_le _ _) hn)
theorem eR2 {n l f x:Nat} (hn:n≤7) (hl:l≤n) (h:x≤l - f):x≤7:=Nat.le_trans h (Nat.le_trans (Nat.sub_le _ _) (Nat.le_trans hl hn))
theorem eU3 {n a b:Nat} (hn:n≤7) (h:b < n):2*(b+1 - a) - 1 < 4000 :=
 Nat.lt_of_le_of_lt (Nat.sub_le _ _) (Nat.lt_of_le_of_lt (Nat.mul_le_mul_left 2 (cF8 h hn)) (by decide))
theorem eT9 {a n j:Nat}:a+n+j - n=a+j:=by rw [Nat.add_right_comm];exact Nat.add_sub_cancel _ _
theorem eK7 {a m b:Nat}:a+(m+b) - b=a+m:=by rw [← Nat.add_assoc];exact Nat.add_sub_cancel _ _
theorem eK2 {a i k:Nat} (h:0 < k+1→a=i+(k+1)):i+1 - a=0:=by rw [h (Nat.succ_pos k)];exact Nat.sub_eq_zero_of_le (Nat.add_le_add_left (Nat.succ_le_succ (Nat.zero_le k)) i)
theorem dO8 {a i k:Nat} (h:0 < k+1→a=i+(k+1)):a=i+1+k:=by rw [h (Nat.succ_pos k),Nat.add_right_comm];rfl
theorem eG8 {i y:Nat} (h:0 < y):i+y=i+1+(y - 1):=by rw [Nat.add_assoc,Nat.add_comm 1,Nat.sub_add_cancel h]
theorem eJ7 {i y:Nat} (h:0 < y):i+y≤i+1+(y - 1):=Nat.le_of_eq (eG8 h)
theorem eT4 {n k:Nat} (hn:n≤7) (h:k < n):k=0∨k=1∨k=2∨k=3∨k=4∨k=5∨k=6:=(by decide:∀ k,k < 7→k=0∨k=1∨k=2∨k=3∨k=4∨k=5∨k=6) k (Nat.lt_of_lt_of_le h hn)
theorem eS9 {n:Nat} (h5:n≤5) (h2:2≤n):n=2∨n=3∨n=4∨n=5:=(by decide:∀ n,n < 6→2≤n→n=2∨n=3∨n=4∨n=5) n (Nat.lt_succ_of_le h5) h2
theorem eT8 {a b l k:Nat} (h:a≤k) (g:b≤l*k):a+b≤l*k+1*k:=by rw [Nat.one_mul,Nat.add_comm];exact Nat.add_le_add g h
theorem eT0 {x:Nat} (h:1≤x):¬ x - 1=x:=Nat.ne_of_lt (Nat.sub_lt h Nat.one_pos)
theorem eS7 {n i:Nat} (h:i≤n) (g:n≤i):n+1 - i=1:=by rw [Nat.le_antisymm h g];exact Nat.add_sub_cancel_left _ _
theorem eT7 {f l:Nat} (h:f≤l):f+(l - f+1)=l+1:=congrArg (·+1) (Nat.add_sub_of_le h)
theorem eR9 {i k d L S:Nat} (h:k+d≤L) (e:L=S - i) (g:1≤d):i+k+d≤S:=by
 rw [e] at h
 rw [Nat.add_assoc,Nat.add_comm]
 exact (Nat.add_le_of_le_sub (Nat.le_of_lt (Nat.lt_of_sub_pos (Nat.lt_of_lt_of_le (Nat.lt_of_lt_of_le g (Nat.le_add_left d k)) h))) h)
theorem eR8 {i k d L S R:Nat} (h:k+d≤L) (e:L=S - i) (g:1≤d) (r:S - i+1≤R+1):S - (i+k+d)+1≤R:=by
 rw [e] at h
 rw [Nat.add_assoc,← Nat.sub_sub]
 have q:=Nat.le_of_succ_le_succ r
 refine Nat.le_trans ?_ q
 have p:0 < k+d:=Nat.lt_of_lt_of_le g (Nat.le_add_left d k)
 exact Nat.sub_lt (Nat.lt_of_lt_of_le p h) p
theorem eT1 {x n c:Nat} (g:2*x=n*n+n) (h:n*n≤25) (hn:n≤5) (t:Nat.ble 30 c=true):x≤c :=
 Nat.le_trans (Nat.le_trans (Nat.le_mul_of_pos_left x (by decide)) (g ▸ Nat.add_le_add h hn)) (cl t)
theorem eU4 {a:Nat}:2*(a+1) - 1 - 2*a=1:=by rw [Nat.mul_succ];exact Nat.add_sub_cancel_left _ _
theorem eT6 {x:Nat}:x / 2≤x:=Nat.div_le_self x 2
theorem eU8 {x c:Nat} (h:x≤c) (t:Nat.ble (c+3+c) 4000=true):x+1+1+1+x≤4000:=Nat.le_trans (Nat.add_le_add (Nat.add_le_add_right h 3) h) (cl t)
theorem eS2 {x i y:Nat} (h:i≤x) (g:y≤x - i):i+y≤x:=by rw [Nat.add_comm];exact Nat.add_le_of_le_sub h g
theorem eV9 {x:Int} (h:x < 8):x.toNat < 8:=(Int.toNat_lt' (by decide)).mpr h
theorem dS0 {c b:Int} {m:Nat} (h0:0≤c) (h1:c < b) (t:decide (b≤(m:Int))=true):c.natAbs < m:=by
 rw [← Int.ofNat_lt,Int.natAbs_of_nonneg h0];exact Int.lt_of_lt_of_le h1 (of_decide_eq_true t)
theorem eM3 {a b:Int} {m:Nat} (h:a.natAbs < m) (t:decide (b≤-(m:Int))=true):b < a :=
 Int.lt_of_le_of_lt (of_decide_eq_true t) (Int.lt_of_lt_of_le (Int.neg_lt_neg (Int.ofNat_lt.mpr h)) (Int.neg_le_of_neg_le (by rw [← Int.natAbs_neg];exact Int.le_natAbs)))
theorem eM2 {a b:Int} {m:Nat} (h:a.natAbs < m) (t:decide ((m:Int)≤b)=true):a < b:=Int.lt_of_le_of_lt Int.le_natAbs (Int.lt_of_lt_of_le (Int.ofNat_lt.mpr h) (of_decide_eq_true t))
theorem eW9 {l n:Nat} (h:l < n) (q:l=n - 1):(l:Int)=(n:Int) - 1:=by rw [q];exact Int.ofNat_sub (dO7 h)
theorem eX4 {x y:Nat} (g:2*x=y):2*(x:Int)=(y:Int):=congrArg Nat.cast g
theorem eP8 {a b c:Nat} (g:a+b=c):(a:Int)+(b:Int)=(c:Int):=congrArg Nat.cast g
theorem eW6 {n m:Nat} (h:n≤5) (t:Nat.ble 6 m=true):((n:Int)).natAbs < m:=Nat.lt_of_le_of_lt h (cl t)
theorem eW8 {x:Int} {m:Nat} (h:x < 255) (e:1+x=(m:Int)):m < 256:=by rw [← Int.ofNat_lt,← e];exact Int.add_lt_add_left h 1
theorem eP9 {x c:Int} (h:0≤x) (t:decide (0≤c)=true):0≤c+x:=Int.add_nonneg (of_decide_eq_true t) h
theorem eW5 {n k:Nat} (h:k < n):(0:Int)≤(n:Int) - 1 - (k:Int):=by rw [Int.sub_sub];exact Int.sub_nonneg_of_le (by rw [Int.add_comm];exact Int.ofNat_le.mpr h)
theorem eW1 {a n j:Nat} (h:j < n):((a+n:Nat):Int) - 1 - (j:Int)=((a+(n - (j+1)):Nat):Int):=by
 rw [Int.sub_sub,Int.add_comm 1,← Nat.add_sub_assoc h];exact (Int.ofNat_sub (Nat.le_trans h (Nat.le_add_left n a))).symm
theorem eS0 {K n j W:Nat} (h2:2≤n) (g:K+n≤W):K+(n - (j+1)) < W:=Nat.lt_of_lt_of_le (Nat.add_lt_add_left (Nat.sub_lt (dO7 h2) (Nat.succ_pos j)) K) g
theorem eS3 {K n j r W:Nat} (h:j < n) (e:W=K+n+r):K+(n - j+(min j n+r))=W:=by
 rw [Nat.min_eq_left (Nat.le_of_lt h),← Nat.add_assoc (n - j),Nat.sub_add_cancel (Nat.le_of_lt h),e,Nat.add_assoc]
theorem eW2 {t s:Nat} (h:t≤1000):min 4294967295 ((t:Int) - (s:Int)).toNat=t - s:=by
 rw [Int.toNat_sub];exact Nat.min_eq_right (Nat.le_trans (Nat.sub_le _ _) (Nat.le_trans h (by decide)))
theorem eX2 {a b:Nat} (h:a≤b):((2*(b+1 - a):Nat):Int) - 1=((2*(b+1 - a) - 1:Nat):Int):=(Int.ofNat_sub (Nat.mul_pos (by decide) (Nat.sub_pos_of_lt (Nat.lt_succ_of_le h)))).symm
theorem eX0 {i:Int} {n c:Nat} {d:Int} (h:i.toNat < n) (g:n≤c) (t:decide ((c:Int)≤d)=true):i < d :=
 Int.lt_of_le_of_lt (Int.self_le_toNat i) (Int.lt_of_lt_of_le (Int.ofNat_lt.mpr h) (Int.le_trans (Int.ofNat_le.mpr g) (of_decide_eq_true t)))
theorem eX5 {i:Int} {n:Nat} (h:i.toNat < n):i < (n:Int):=Int.lt_of_le_of_lt (Int.self_le_toNat i) (Int.ofNat_lt.mpr h)
theorem eU7 {c d:Nat} (h:c < 128) (t:Nat.ble 128 d=true):c < d:=Nat.lt_of_lt_of_le h (cl t)
theorem eX7 {M:Model} {α:Type} {A:Around} {m:Sem α} {Q:α→Shared→Prop} {E:Value→Shared→Prop} {s:Shared} (h:∀ Q',(∀ v s,Q v s→Q' v s)→wpAny M A m Q' E s):wpAny M A m Q E s:=h Q fun _ _ h=>h
theorem nos {α:Type} {a:α} {P:Prop} (h:none=some a):P:=by cases h
theorem noB {P:Prop} (h:false=true):P:=Bool.noConfusion h
noncomputable def Al {β:Type} (o:Option β) (T:β→Prop):Prop:=∀ d,o=some d→T d
section
variable {α β:Type} {T:β→Prop}
theorem Al.none:Al Option.none T:=fun _ e=>nomatch e
theorem Al.bind {o:Option α} {f:α→Option β} (h:∀ a,o=some a→Al (f a) T):Al (o.bind f) T:=by
 cases o with
 | some a=>exact h a rfl
 | none=>exact Al.none
theorem Al.map {o:Option α} {f:α→β} (h:∀ a,o=some a→T (f a)):Al (o.map f) T:=by
 cases o with
 | some a=>exact fun _ e=>Option.some.inj e ▸ h a rfl
 | none=>exact Al.none
theorem Al.some {b:β} (h:T b):Al (Option.some b) T:=fun _ e=>Option.some.inj e ▸ h
theorem Al.ite {c:Prop} [Decidable c] {o:Option β} (h:c→Al o T):Al (if c then o else Option.none) T:=by
 by_cases q:c
 ·rw [if_pos q];exact h q
 ·rw [if_neg q];exact Al.none
theorem Al.ite2 {c:Prop} [Decidable c] {o p:Option β} (h:c→Al o T) (h':¬c→Al p T):Al (if c then o else p) T:=by
 by_cases q:c
 ·rw [if_pos q];exact h q
 ·rw [if_neg q];exact h' q
end
end Mine
end
section
open PySem PySem.W PyProof.Rows PySem.Calls PySem.Spec
open Sem (wp)
set_option autoImplicit false
set_option maxRecDepth 100000
namespace Mine
noncomputable def calm:Code→Bool
 | .builtin id _=>id == "claim.caller" || id == "type.__call__" || id == "bytearray.__init__" || id == "int.__new__"
 | _=>true
noncomputable def eH5 (l:List (Code × Pos)):Prop:=∀ c∈l,calm c.1=true
noncomputable def cE2 (l:List Code):Prop:=∃ c∈l,c.isCaller=true
section
variable {α β:Type} {M:Model} {A:Around} {E:Value→Shared→Prop} {s:Shared}
noncomputable def wpN (M:Model) (A:Around) (t:Sem α) (Q:α→Shared→Prop) (E:Value→Shared→Prop) (s:Shared):Prop :=
 ∀ (Γ:PySem.Ctx) p,Γ.In A→calm Γ.code=true→eH5 Γ.below∧cE2 (Γ.code::Γ.below.map (·.1))→wp M Γ t (fun a _ s'=>Q a s') (fun e _ s'=>E e s') p s
noncomputable def codeN (M:Model) (A:Around) (c:Code) (R:Result→Shared→Prop) (s:Shared):Prop :=
 ∀ (Γ:PySem.Ctx) p,Γ.code=c→Γ.Below A→eH5 Γ.below∧cE2 (Γ.below.map (·.1))→wpCode M Γ R p s
theorem aW4 {t:Sem α} {Q:α→Shared→Prop} (h:wpAny M A t Q E s):wpN M A t Q E s:=fun Γ p bl _ _=>h Γ p bl
theorem dG0 {c:Code} {R:Result→Shared→Prop} (h:codeAny M A c R s):codeN M A c R s:=fun Γ p hc bl _=>h Γ p hc bl
theorem aL2 {t:Sem α} {Q Q':α→Shared→Prop} {E':Value→Shared→Prop} (h:wpN M A t Q E s) (hQ:∀ a s,Q a s→Q' a s) (hE:∀ e s,E e s→E' e s):wpN M A t Q' E' s :=
 fun Γ p bl h1 h2=>Sem.wp_mono M Γ t (fun a _ s=>hQ a s) (fun e _ s=>hE e s) p s (h Γ p bl h1 h2)
theorem aG7 {m:Sem α} {f:α→Sem β} {Q:β→Shared→Prop} (h:wpN M A m (fun a s'=>wpN M A (f a) Q E s') E s):wpN M A (m >>= f) Q E s:=fun Γ p bl h1 h2=>by
 rw [Sem.wp_bind']
 exact Sem.wp_mono M Γ m (fun a p' s' h'=>h' Γ p' bl h1 h2) (fun _ _ _ h'=>h') p s (h Γ p bl h1 h2)
theorem aA7 {m:Sem α} {f:α→Sem β} {Q:β→Shared→Prop} (h:wpAny M A m (fun a s'=>wpN M A (f a) Q E s') E s):wpN M A (m >>= f) Q E s:=aG7 (aW4 h)
theorem aV4 {vs:List Value} {m:Sem α} {Q:α→Shared→Prop} (h:wpN M A m Q E s):wpN M A (holding vs m) Q E s :=
 fun Γ p bl h1 h2=>by rw [Sem.wp_holding];exact h Γ p bl h1 h2
theorem aV2 {m:Sem α} {k:Value→Sem Unit} {Q:α→Shared→Prop} (h:wpN M A m Q (fun e s'=>wpAny M A (k e) (fun _ s''=>E e s'') E s') s):wpN M A (m.onRaise k) Q E s:=fun Γ p bl h1 h2=>by
 rw [Sem.wp_onRaise]
 exact Sem.wp_mono M Γ m (fun _ _ _ h'=>h') (fun e p' s' h'=>h' Γ p' bl) p s (h Γ p bl h1 h2)
theorem aD4 {a:α} {Q:α→Shared→Prop} (h:Q a s):wpN M A (pure a) Q E s:=fun _ _ _ _ _=>h
theorem bK9 {Γ:PySem.Ctx} {c:Code} {hd:Option Value} {p:Pos} (h1:calm Γ.code=true) (h2:eH5 Γ.below∧cE2 (Γ.code::Γ.below.map (·.1))):eH5 (Γ.enter c hd p).below∧cE2 ((Γ.enter c hd p).below.map (·.1)):=by
 refine ⟨fun x hx=>?_,h2.2⟩
 have:x∈(Γ.code,p)::Γ.below:=hx
 rcases List.mem_cons.mp this with rfl | hx
 ·exact h1
 ·exact h2.1 x hx
theorem bP1 {c:Code} {Q:Value→Shared→Prop} (hc:codeN M A c (fun r s'=>match r with | .ok (.ret v)=>Q v s' | .ok _=>False | .error e=>E e s') s):wpN M A (runValue c) Q E s :=
 fun Γ p bl h1 h2=>by rw [Sem.wp_runValue];exact hc _ p rfl (bl.enter c none p (by intro x;cases x)) (bK9 h1 h2)
theorem aT4 {f:Value} {pos:List Value} {kw:List (Str × Value)} {Q:Value→Shared→Prop}
  (hc:codeN M A (.call f ⟨pos,kw⟩) (fun r s'=>match r with | .ok (.ret v)=>Q v s' | .ok _=>False | .error e=>E e s') s):wpN M A (call f pos kw) Q E s:=bP1 hc
theorem aE5 {c:Code} {R:Result→Shared→Prop} (hcalm:calm c=true)
  (h:wpN M (A.under c) (M.den c) (fun fin s'=>match fin with | .done f=>R (.ok f) s' | .again c'=>c'.quiet=true∧codeN M A c' R s') (fun e s'=>R (.error e) s') s):codeN M A c R s:=fun Γ p hc bl h2=>by
 rw [wpCode_iff_wp,hc]
 refine Sem.wp_mono M Γ _ (fun fin p' s' h'=>?_) (fun _ _ _ h'=>h') p s (h Γ p (hc ▸ bl.in) (hc ▸ hcalm) ⟨h2.1,let ⟨x,hx,hy⟩:=h2.2;⟨x,List.mem_cons_of_mem _ hx,hy⟩⟩)
 cases fin with
 | done f=>exact h'
 | again c'=>exact ⟨h'.1,h'.2 (Γ.goto c') p' rfl (bl.goto c') h2⟩
theorem bK8 {c:Code} {R R':Result→Shared→Prop} (h:codeN M A c R s) (hR:∀ r s,R r s→R' r s):codeN M A c R' s :=
 fun Γ p hc bl h2=>wpCode_mono hR (h Γ p hc bl h2)
end
end Mine
end
section
open PySem PySem.W PyProof.Rows PySem.Calls PySem.Spec
open Sem (wp)
set_option maxRecDepth 100000
namespace Mine
theorem cZ1 {prog:Program} {w:World} {t:Sem Fin} {s:Shared} {R:Result→Shared→Prop} (hreg:s.asleep)
  (h:wpN (model prog w) callerA t (fun fin s'=>∃ f,fin=.done f∧R (.ok f) s'∧leftWithCleanup s'.gens=false) (fun e s'=>R (.error e) s'∧leftWithCleanup s'.gens=false) s) :
  ∃ n r s' s'',runN (denote table) prog w n s ⟨t,.builtin "claim.caller" {},default,[]⟩=.halted (outcomeOf r) s' ∧
   schedN (denote table) prog w n (.single s ⟨t,.builtin "claim.caller" {},default,[]⟩)=.halted (outcomeOf r) s'∧s'.forget=s''.forget∧R r s'':=by
 have hc:calm (.builtin "claim.caller" {})=true:=by
  show (("claim.caller" == "claim.caller") || ("claim.caller" == "type.__call__") || ("claim.caller" == "bytearray.__init__") || ("claim.caller" == "int.__new__"))=true
  decide +kernel
 have hw:=h ⟨.builtin "claim.caller" {},none,none,[],none⟩ default caller_in hc ⟨fun _ hx=>(List.not_mem_nil hx).elim,_,.head _,rfl⟩
 refine hid fun Gz zz=>?_
 obtain ⟨n,r,aa,ai,hs,hn,hfo,hR⟩:=wp_halts_full (M:=model prog w) (R:=R) hreg
  (Sem.wp_mono _ _ _ (fun fin p' s' hq=>by obtain ⟨f,rfl,hf⟩:=hq;exact hf) (fun _ _ _ hq=>hq) _ _ hw)
 refine zz ?_;clear zz Gz
 exact ⟨n,r,ai,aa,hn,hs,hfo,hR⟩
theorem cJ9 {c:ClaimW} {tree:List Value→Sem Fin} {w:World} {s:Shared} {free:Addr→Prop} {gens:Prop} {kept:Heap→Prop} (hz:s.asleep) (hgens:s.gens=#[])
  (hspec:∀ args,c.pre args=true→WData.layableAll args=true→∀ ord:List DictEntry→List DictEntry,(∀ l,(ord l).Perm l) →
   ∃ vs aa,layAllW c.records (classAt s.heap) w.params ord args s=some (vs,aa) ∧
    wpN (model c.prog w) callerA (tree vs) (fun fin s'=>∃ f,fin=.done f∧(c.Ends s args vs aa (.ok f) s'∧s'.os=s.os∧kept s'.heap)∧AllBare s'.gens)
     (fun e s'=>(c.Ends s args vs aa (.error e) s'∧s'.os=s.os∧kept s'.heap)∧AllBare s'.gens) aa) :
  c.CallFrom (fun vs=>⟨tree vs,.builtin "claim.caller" {},default,[]⟩) w free gens kept s:=by
 intro args hpre hlay ord hord
 refine hid fun Gz zz=>?_
 obtain ⟨vs,aa,hlaid,hcode⟩:=hspec args hpre hlay ord hord
 have rest:=layAllW_rest _ _ _ hlaid
 obtain ⟨k,r,s',s'',hrun,hsched,hfo,⟨hcase,hos,hkp⟩⟩:=cZ1 (prog:=c.prog) (w:=w) (t:=tree vs) (s:=aa)
  (R:=fun r s'=>c.Ends s args vs aa r s'∧s'.os=s.os∧kept s'.heap) (Shared.asleep_of_life rest.2.2.2 hz)
  (aL2 hcode (fun fin s' ⟨f,e,h1,h2⟩=>⟨f,e,h1,leftWithCleanup_false_of_bare h2⟩) fun e s' ⟨h1,h2⟩=>⟨h1,leftWithCleanup_false_of_bare h2⟩)
 obtain ⟨eh,_,_,eo,_⟩:=Shared.forget_eq hfo
 refine zz ?_;clear zz Gz
 have hcase:=hcase.congr eh
 rw [← eh] at hkp
 rw [← eo] at hos
 have hlife:s'.heap.life=s.heap.life:=(runN_life _ _ _ hrun).trans rest.2.2.2
 refine ⟨vs,aa,hlaid,k,_,s',hsched,?_,(fun _ i x hx=>by rw [hgens] at hx;simp at hx),hkp,by rw [hlife],Shared.rest_eq hos⟩
 refine hid fun Gz zz=>?_
 rcases hcase with ⟨v,rfl,d1,d2,d3,d4,d5⟩ | ⟨e,ob,cls,rfl,d1,d2,d3,d4,d5⟩
 ·refine zz ?_;clear zz Gz
  exact .inl ⟨v,rfl,d1,d2,d3,fun b o y _=>d4 b o y,d5⟩
 ·refine zz ?_;clear zz Gz
  exact .inr ⟨e,ob,cls,rfl,d1,d2,d3,d4,fun b o y _=>d5 b o y⟩
noncomputable abbrev eN5 (q:Program) (loose:List PySem.Str) (XP:(PySem.Str→Option Value)→Heap→Prop) (YP:World→Heap→Prop) (r:RowW) (d:DefRec) (kwd:List (PySem.Str × Expr)):Prop :=
 ∀ (w:World) (ah aa:Shared) (mg mb:PySem.Str→Option Value),Ground q loose r.records XP w ah mg mb aa.heap→YP w aa.heap→∀ (a:Addr) (o:Obj) (pm cd doc dV kV:Value),aa.heap.get? a=some o →
  o.data=.func { docDef d.name d.params d.body d.scope pm cd doc with defaults:=dV,kwdefaults:=kV }→aa.heap.CodeRec cd d.name→Dflts mg aa.heap d.params kwd dV kV→mg d.name=some (.ref a)→aa.gens=#[] →
  ∀ (args:List WData) (vals:List Value) (as:List Addr),r.claim.pre args=true→WData.layableAll args=true→ReadsAllW r.records (classAt ah.heap) aa.heap vals args as→WellAll w.params aa.heap vals args→(∀ a∈as,(a == sysModules)=false) →
   wpN (model r.prog w) callerA (call (.ref a) vals) (fun v s'=>GoodWG r.claim (classAt ah.heap) (ExcName.means ah.heap) args aa (.ok (.ret v)) s')
    (fun e s'=>GoodWG r.claim (classAt ah.heap) (ExcName.means ah.heap) args aa (.error e) s') aa
theorem PySem.W.holds_open {r:OpenRow} {q:Program} {loose:List PySem.Str} {Xt:Shared→Bool} {XP:(PySem.Str→Option Value)→Heap→Prop} {α:Type} {Yf:Shared→α} {Ya:World→α} {YP:World→Heap→Prop} {d:DefRec} {kwd:List (PySem.Str × Expr)} {N:Nat}
  (left:LeftO r.prog q loose Xt Yf Ya N) (hY:∀ w s,Yf s=Ya w→YP w s.heap) (hYk:∀ w h h',YP w h→(∀ b o,h.get? b=some o→h'.get? b=some o)→YP w h')
  (hX:∀ s,Xt s=true→XP (s.heap.nsMap mainGlobals) s.heap) (hXk:∀ mg h h',XP mg h→(∀ b o,h.get? b=some o→h'.get? b=some o)→XP mg h')
  (hdef:defOf q r.name=some (d,kwd)) (hp:r.prog.theDef r.name=some (d.params,d.body,d.scope)) (hk:kwWritten? d.params.kwonlyargs d.params.kw_defaults=some kwd) (hRf:∀ s,Xt s=true→RecFacts r.records s.heap) (hwr:(!r.writes || r.records.isEmpty)=true)
  (k1:r.wellSaid=true) (ok:(chainsOk q&&opensWell r.prog&&(frees r.toRowW&&r.within.isEmpty))=true) (hb:r.prog.bare) (hw:r.toRowW.promised)
  (call:eN5 q loose XP YP r.toRowW d kwd):r.Holds:=by
 refine ⟨k1,hw,?_⟩
 refine hid fun Gz zz=>?_
 obtain ⟨ok,k5⟩:=Bool.and_eq_true_iff.mp ok
 obtain ⟨hch,o1⟩:=Bool.and_eq_true_iff.mp ok
 obtain ⟨k5,k6⟩:=Bool.and_eq_true_iff.mp k5
 obtain ⟨hsame,hu,ha,hap,hm⟩:=frees_parts k5
 refine zz ?_;clear zz Gz
 have hi:=ident_freeW hu ha hap
 have hwi:r.toRowW.claim.within=[]:=List.isEmpty_iff.mp k6
 refine ⟨⟨hb,o1,by show r.makers.map _=[];rw [hm];rfl⟩,hw.witness,fun w=>⟨(left.behind hX hch w).1,fun s' hs'=>?_⟩⟩
 refine hid fun Gz zz=>?_
 obtain ⟨ah,hf,hg0,s,hT,hz,hgens,hg,G00,y⟩:=(left.behind (XP:=fun mg h=>XP mg h∧RecFacts r.records h) (fun s hs=>⟨hX s hs,hRf s hs⟩) hch w).2 s' hs'
 refine zz ?_;clear zz Gz
 have RF:=G00.X.2
 have G0:Ground q loose [] XP w s (s.heap.nsMap mainGlobals) (s.heap.nsMap builtinsNs) s.heap:=⟨G00.T,G00.B,G00.D,G00.TE,G00.TD,G00.W,G00.X.1,G00.cls,G00.has,G00.apart,G00.once,G00.K⟩
 have G:Ground q loose r.records XP w s _ _ s.heap:=RF.ground G0
 have hT':=hT
 have hgens:s.gens=#[]:=Array.eq_empty_of_size_eq_zero (beq_iff_eq.mp hgens)
 refine ⟨ah,hf,hg0,s,hT,fun n hn=>?_,RF.1,RF.2.1,?_⟩
 ·obtain rfl:n=r.name:=by split at hn<;>simp_all
  exact pinned_of_view hg G0 hdef hp hk
 refine cJ9 (c:=r.toRowW.claim) hz hgens fun args hpre hlay ord hord=>?_
 refine hid fun Gz zz=>?_
 obtain ⟨⟨vs,aa⟩,hlaid⟩:=Option.isSome_iff_exists.mp (layAllW_isSome (P:=w.params) (ord:=ord) G.has args r.toRowW.args s (pre_splitW hpre).1)
 have keeps:=layAllW_keeps _ _ _ hlaid
 have hal:=layAllW_rest _ _ _ hlaid
 obtain ⟨as,hrd,hin,hold⟩:=reads_layAllW hord _ _ _ hlaid hlay aa.heap (fun _ _ e=>e)
 have L:Laid r.records w s aa args vs as:=⟨⟨ord,hord,hlaid⟩,hrd,hin,hold,keeps,hal.1.trans hgens,hal.2.2.1⟩
 have dC:=G.keeps hXk keeps
 obtain ⟨a,o,pm,cd,doc,dV,kV,h1,h2,h3,h4,h5⟩:=dC.fn hdef
 refine zz ?_;clear zz Gz
 have hcall:=call w s aa _ _ dC (hYk _ _ _ (hY w s y) keeps) a o pm cd doc dV kV h2 h3 h4 h5 (defOf_name hdef ▸ h1) L.gens args vs as hpre hlay L.reads L.well (L.low G.low)
 refine ⟨vs,aa,hlaid,aA7 (wpAny_nsGet dC.T.g ?_)⟩
 rw [h1]
 have post:∀ (res:Result) (s':Shared),GoodWG r.toRowW.claim (classAt s.heap) (ExcName.means s.heap) args aa res s' →
   (r.toRowW.claim.Ends s args vs aa res s'∧s'.os=s.os∧(r.writes=true→namesKept r.prog r.keeps s.heap s'.heap∧∀ x∈r.records,∀ a,classAt s.heap x.1=some a→recordClass s'.heap a x.1 (x.2.map (·.1))=true))∧AllBare s'.gens:=fun res s' g=>by
  have z:=g.laid (c:=r.toRowW.claim) hsame hwi hi L
  exact ⟨⟨z.1,z.2.1,fun q=>⟨namesKept_of hT' hg _ keeps g.2.1.old,noTable hwr q⟩⟩,z.2.2⟩
 exact aG7 (aL2 hcall (fun v s' g=>aD4 ⟨_,rfl,post _ _ g⟩) fun e s' g=>post _ _ g)
end Mine
end
section
open PySem PySem.W PyProof.Rows
set_option maxRecDepth 100000
set_option maxHeartbeats 8000000
namespace Mine
theorem eY4:PySem.Challenge.rw_jc0018_01.wellSaid=true:=by decide +kernel
open_top hd for PySem.Challenge.rw_jc0018_01.row
end Mine
end
section
open PySem PySem.W PyProof.Rows PySem.Calls PySem.Spec
namespace Mine
noncomputable abbrev Key:=Int ⊕ Str
inductive D where
 | none
 | bool (b:Bool)
 | int (i:Int)
 | str (x:Str)
 | bytes (b:Array UInt8)
 | tup (ds:List D)
 | lst (ds:List D)
 | dct (kvs:List (Key × Int))
 | barr (b:Array UInt8)
 | ent (ds:List D)
 | pat
noncomputable abbrev aU9 (vs:List Value) (n:Nat):Obj:={ cls:=.type "tuple",data:=.seq vs.toArray n }
noncomputable abbrev aB2 (vs:List Value) (n:Nat):Obj:={ cls:=.type "list",data:=.seq vs.toArray n }
noncomputable abbrev eQ3 (es:Array DictEntry) (n:Nat):Obj:={ cls:=.type "dict",data:=.dict es n }
noncomputable abbrev aJ5 (b:Array UInt8):Obj:={ cls:=.type "bytearray",data:=.bytearray b 0 }
section
variable {prog:Program} {w:World} {A:Around} {E:Value→Shared→Prop} {s:Shared}
theorem cI1 (a:Int) (t:Tok) (b:Str) (u:Tok):¬ (Value.int a t == Value.str b u)=true:=fun z=>Value.noConfusion (eq_of_beq z)
theorem cF0 (a:Str) (t:Tok) (b:Int) (u:Tok):¬ (Value.str a t == Value.int b u)=true:=fun z=>Value.noConfusion (eq_of_beq z)
theorem bI4 {a:Int} {t:Tok} {b:Str} {u:Tok} {Q:Bool→Shared→Prop} (h:Q false s):wpAny (model prog w) A (eqBool (.int a t) (.str b u)) Q E s:=by
 dsimp only [eqBool]
 refine wpAny_holding ?_
 rw [if_neg (cI1 _ _ _ _)]
 exact wpAny_bind (EqMixed.eq_int_str (wpAny_truthy_bool h))
theorem bI3 {a:Str} {t:Tok} {b:Int} {u:Tok} {Q:Bool→Shared→Prop} (h:Q false s):wpAny (model prog w) A (eqBool (.str a t) (.int b u)) Q E s:=by
 dsimp only [eqBool]
 refine wpAny_holding ?_
 rw [if_neg (cF0 _ _ _ _)]
 exact wpAny_bind (EqMixed.eq_str_int (wpAny_truthy_bool h))
end
noncomputable def dD0:Key→Value→Bool
 | .inl i=>Value.isInt i
 | .inr x=>Value.isStrOf x
noncomputable def aC0 (prog:Program) (w:World):PySem.KeyKind prog w Key where
 is:=dD0
 hash
  | .inl i=>(intKind prog w).hash i
  | .inr x=>(PySem.strKind prog w).hash x
 inj:=by
  intro v a b ha hb
  cases a<;>cases b
  ·exact congrArg _ ((intKind prog w).inj v _ _ ha hb)
  ·obtain ⟨t,rfl⟩:=Value.isInt_shape ha
   exact noB hb
  ·obtain ⟨t,rfl⟩:=Value.isStrOf_shape ha
   exact noB hb
  ·exact congrArg _ ((PySem.strKind prog w).inj v _ _ ha hb)
 byValue:=by
  intro k v h
  cases k
  ·exact (intKind prog w).byValue _ v h
  ·exact (PySem.strKind prog w).byValue _ v h
 pyHash:=by
  intro A E s k v Q h q
  cases k
  ·exact (intKind prog w).pyHash h q
  ·exact (PySem.strKind prog w).pyHash h q
 eqBool:=by
  intro A E s a b u v Q ha hb h
  cases a<;>cases b
  ·exact (intKind prog w).eqBool ha hb (by simpa using h)
  ·obtain ⟨t,rfl⟩:=Value.isInt_shape ha
   obtain ⟨t',rfl⟩:=Value.isStrOf_shape hb
   exact bI4 (h)
  ·obtain ⟨t,rfl⟩:=Value.isStrOf_shape ha
   obtain ⟨t',rfl⟩:=Value.isInt_shape hb
   exact bI3 (h)
  ·exact (PySem.strKind prog w).eqBool ha hb (by simpa using h)
 «strs»:=by
  intro k x t v h
  cases k
  ·exact noB h
  ·exact (PySem.strKind prog w).strs _ x t v h
inductive IntVals:List (Key × Value)→List (Key × Int)→Prop
 | nil:IntVals [] []
 | cons {k i t ps qs}:IntVals ps qs→IntVals ((k,.int i t)::ps) ((k,i)::qs)
noncomputable def patWords:List Int:=[14,4,0,1,4294967295,17,0,7,14,24,10,1,4294967295,13,5,22,48,57,0,1,15,17,15,13,11,9,0,26624,2147483648,0,0,0,0,0,0,15,2,0,17,1,1]
noncomputable def patCode:List Value:=patWords.map rawInt
noncomputable def verKV:List (Key × Int):=[(.inr "dev",10),(.inr "alpha",20),(.inr "a",20),(.inr "beta",30),(.inr "b",30),(.inr "c",40),(.inr "RC",50),(.inr "rc",50),(.inr "pl",200),(.inr "p",200)]
structure Cfg where
 prog:Program
 w:World
 mg:Str→Option Value
 PT:Addr
 K:Frag
 tab:Heap→Prop
 tabMono:∀ h h':Heap,(∀ b o,h.get? b=some o→(o.cls=.type "code"∨o.cls=.none)→h'.get? b=some o)→tab h→tab h'
 tabNone:∀ h:Heap,tab h→∃ o,h.get? PT=some o∧o.cls=.none
 EC:Addr       -- the class Entry
 PA:Addr       -- the compiled pattern
 VA:Addr       -- the table of stages
 ptg:PT≠mainGlobals
 ptb:PT≠builtinsNs
 pts:PT≠cStatics
 Kcls:∀ a o,K.lookup a=some o→o.cls≠.none∨a≠PT
 patN:mg "_twin_re_1"=some (.ref PA)
 pat:∃ src fl c sl,K.lookup PA=some ⟨.type "re.Pattern",Option.none,.fields #[src,fl,rawInt 1,.none,.none,.ref c,rawInt 0],sl⟩∧K.lookup c=some (aU9 patCode 0)
 verN:mg "_ver_stages"=some (.ref VA)
 ver:∃ o ps,K.lookup VA=some o∧o.IsDictOf (aC0 prog w) ps∧IntVals ps verKV∧(VA == sysModules)=false
 ua:plainGet K EC "useragents"=true∧hasDictIn K EC=true∧findIn K (.ref EC) "useragents"=some .none
noncomputable abbrev aU7:=Addr→Option Obj
mutual
inductive Rd (C:Cfg) (G:aU7):Value→D→Prop
 | none:Rd C G .none .none
 | bool (b:Bool):Rd C G (.bool b) (.bool b)
 | int (i:Int) (t:Tok):Rd C G (.int i t) (.int i)
 | str (x:Str) (t:Tok):Rd C G (.str x t) (.str x)
 | bytes (b:Array UInt8) (t:Tok):Rd C G (.bytes b t) (.bytes b)
 | tup {a:Addr} {vs:List Value} {n:Nat} {ds:List D}:G a=some (aU9 vs n)→RdL C G vs ds→Rd C G (.ref a) (.tup ds)
 | lst {a:Addr} {vs:List Value} {n:Nat} {ds:List D}:G a=some (aB2 vs n)→RdL C G vs ds→Rd C G (.ref a) (.lst ds)
 | dct {a:Addr} {o:Obj} {ps:List (Key × Value)} {kvs:List (Key × Int)}:G a=some o→o.IsDictOf (aC0 C.prog C.w) ps→IntVals ps kvs→(a == sysModules)=false→Rd C G (.ref a) (.dct kvs)
 | barr {a:Addr} {b:Array UInt8}:G a=some (aJ5 b)→Rd C G (.ref a) (.barr b)
 | ent {a dx l:Addr} {es:List DictEntry} {n:Nat} {vs:List Value} {m:Nat} {ds:List D} :
   G a=some (instObj C.EC dx)→G dx=some (dictOf es n)→getL "useragents" es=some (some (.ref l))→getL "applies_to" es=some Option.none→G l=some (aB2 vs m)→RdL C G vs ds→Rd C G (.ref a) (.ent ds)
 | pat:Rd C G (.ref C.PA) .pat
inductive RdL (C:Cfg) (G:aU7):List Value→List D→Prop
 | nil:RdL C G [] []
 | cons {v vs d ds}:Rd C G v d→RdL C G vs ds→RdL C G (v::vs) (d::ds)
end
noncomputable def Fz (h:Heap) (Mu:Addr→Bool):aU7:=fun a=>if Mu a=true then Option.none else h.get? a
noncomputable def noMu:Addr→Bool:=fun _=>false
noncomputable def Ext (PT:Addr) (h h':Heap):Prop:=∀ b o,h.get? b=some o→(o.cls≠.none∨b≠PT)→h'.get? b=some o
theorem Ext.refl (PT:Addr) (h:Heap):Ext PT h h:=fun _ _ e _=>e
theorem Ext.trans {PT:Addr} {h h' h'':Heap} (a:Ext PT h h') (b:Ext PT h' h''):Ext PT h h'':=fun _ _ e c=>b _ _ (a _ _ e c) c
theorem Ext.of_keep {PT:Addr} {h h':Heap} (k:∀ b o,h.get? b=some o→h'.get? b=some o):Ext PT h h':=fun b o e _=>k b o e
noncomputable def VLe (G G':aU7):Prop:=∀ a o,G a=some o→o.cls≠.none→G' a=some o
theorem VLe.refl (G:aU7):VLe G G:=fun _ _ e _=>e
theorem VLe.trans {G G' G'':aU7} (a:VLe G G') (b:VLe G' G''):VLe G G'':=fun _ _ e c=>b _ _ (a _ _ e c) c
theorem VLe.ext {PT:Addr} {h h':Heap} {Mu:Addr→Bool} (e:Ext PT h h'):VLe (Fz h Mu) (Fz h' Mu):=fun a o q c=>by
 dsimp only [Fz] at q ⊢
 by_cases m:Mu a=true
 ·rw [if_pos m] at q;exact nos q
 ·rw [if_neg m] at q ⊢;exact e a o q (.inl c)
theorem VLe.mu {h:Heap} {Mu Mu':Addr→Bool} (e:∀ a,Mu' a=true→Mu a=true):VLe (Fz h Mu) (Fz h Mu'):=fun a o q _=>by
 dsimp only [Fz] at q ⊢
 by_cases m:Mu a=true
 ·rw [if_pos m] at q;exact nos q
 ·rw [if_neg m] at q
  rw [if_neg fun z=>m (e a z)];exact q
theorem VLe.heap {h:Heap} {Mu:Addr→Bool}:VLe (Fz h Mu) (fun a=>h.get? a):=fun a o q _=>by
 dsimp only [Fz] at q
 by_cases m:Mu a=true
 ·rw [if_pos m] at q;exact nos q
 ·rw [if_neg m] at q;exact q
theorem aO2 (h:Heap):Fz h noMu=fun a=>h.get? a:=by
 funext a;simp [Fz,noMu]
noncomputable def eN7 (C:Cfg) (G:aU7):D→Value→Prop
 | .none,v=>v=.none
 | .bool b,v=>v=.bool b
 | .int i,v=>∃ t,v=.int i t
 | .str x,v=>∃ t,v=.str x t
 | .bytes b,v=>∃ t,v=.bytes b t
 | .tup ds,v=>∃ a vs n,v=.ref a∧G a=some (aU9 vs n)∧RdL C G vs ds
 | .lst ds,v=>∃ a vs n,v=.ref a∧G a=some (aB2 vs n)∧RdL C G vs ds
 | .dct kvs,v=>∃ a o ps,v=.ref a∧G a=some o∧o.IsDictOf (aC0 C.prog C.w) ps∧IntVals ps kvs∧(a == sysModules)=false
 | .barr b,v=>∃ a,v=.ref a∧G a=some (aJ5 b)
 | .ent ds,v=>∃ a dx l es n vs m,v=.ref a∧G a=some (instObj C.EC dx)∧G dx=some (dictOf es n)∧getL "useragents" es=some (some (.ref l))∧getL "applies_to" es=some Option.none∧G l=some (aB2 vs m)∧RdL C G vs ds
 | .pat,v=>v=.ref C.PA
theorem Rd.inv {C:Cfg} {G:aU7} {v:Value} {d:D} (r:Rd C G v d):eN7 C G d v:=by
 cases r with
 | none=>exact rfl
 | bool=>exact rfl
 | int=>exact ⟨_,rfl⟩
 | str=>exact ⟨_,rfl⟩
 | bytes=>exact ⟨_,rfl⟩
 | tup e r=>exact ⟨_,_,_,rfl,e,r⟩
 | lst e r=>exact ⟨_,_,_,rfl,e,r⟩
 | dct e r i z=>exact ⟨_,_,_,rfl,e,r,i,z⟩
 | barr e=>exact ⟨_,rfl,e⟩
 | ent h1 h2 h3 h5 h4 r=>exact ⟨_,_,_,_,_,_,_,rfl,h1,h2,h3,h5,h4,r⟩
 | pat=>exact rfl
noncomputable def eG2 (C:Cfg) (G:aU7):List D→List Value→Prop
 | [],vs=>vs=[]
 | d::ds,vs=>∃ v r,vs=v::r∧Rd C G v d∧RdL C G r ds
theorem RdL.inv {C:Cfg} {G:aU7} {vs:List Value} {ds:List D} (r:RdL C G vs ds):eG2 C G ds vs:=by
 cases r with
 | nil=>exact rfl
 | cons h r=>exact ⟨_,_,rfl,h,r⟩
theorem IsDictOf.cls {C:Cfg} {o:Obj} {ps:List (Key × Value)} (r:o.IsDictOf (aC0 C.prog C.w) ps):o.cls≠.none:=by
 obtain ⟨_,_,q,_⟩:=r;rw [q.1];exact Value.noConfusion
theorem cM7 {vs:List Value} {n:Nat}:(aU9 vs n).cls≠.none:=Value.noConfusion
theorem aV8 {vs:List Value} {n:Nat}:(aB2 vs n).cls≠.none:=Value.noConfusion
theorem Rd.mono {C:Cfg} {G G':aU7} (e:VLe G G') {v:Value} {d:D} (r:Rd C G v d):Rd C G' v d :=
 Rd.rec (motive_1:=fun v d _=>Rd C G' v d) (motive_2:=fun vs ds _=>RdL C G' vs ds) .none .bool .int .str .bytes (fun h _ q=>.tup (e _ _ h cM7) q) (fun h _ q=>.lst (e _ _ h aV8) q) (fun h r n z=>.dct (e _ _ h (IsDictOf.cls r)) r n z) (fun h=>.barr (e _ _ h Value.noConfusion))
  (fun h1 h2 h3 h5 h4 _ q=>.ent (e _ _ h1 Value.noConfusion) (e _ _ h2 Value.noConfusion) h3 h5 (e _ _ h4 aV8) q) .pat .nil (fun _ _ p q=>.cons p q) r
theorem RdL.ind {C:Cfg} {G:aU7} {P:List Value→List D→Prop} (h0:P [] []) (h1:∀ {v vs d ds},Rd C G v d→RdL C G vs ds→P vs ds→P (v::vs) (d::ds)) {vs:List Value} {ds:List D} (r:RdL C G vs ds):P vs ds :=
 RdL.rec (motive_1:=fun _ _ _=>True) (motive_2:=fun vs ds _=>P vs ds) trivial (fun _=>trivial) (fun _ _=>trivial) (fun _ _=>trivial) (fun _ _=>trivial) (fun _ _ _=>trivial) (fun _ _ _=>trivial) (fun _ _ _ _=>trivial) (fun _=>trivial) (fun _ _ _ _ _ _ _=>trivial) trivial h0 (fun h r _ q=>h1 h r q) r
theorem RdL.mono {C:Cfg} {G G':aU7} (e:VLe G G') {vs:List Value} {ds:List D} (r:RdL C G vs ds):RdL C G' vs ds:=RdL.ind .nil (fun h _ q=>.cons (h.mono e) q) r
theorem RdL.length {C:Cfg} {G:aU7} {vs:List Value} {ds:List D} (r:RdL C G vs ds):vs.length=ds.length:=RdL.ind (P:=fun vs ds=>vs.length=ds.length) rfl (fun _ _ q=>congrArg Nat.succ q) r
theorem RdL.append {C:Cfg} {G:aU7} {vs ws:List Value} {ds es:List D} (r:RdL C G vs ds) (q:RdL C G ws es):RdL C G (vs++ws) (ds++es):=RdL.ind (P:=fun vs ds=>RdL C G (vs++ws) (ds++es)) q (fun h _ q=>.cons h q) r
theorem RdL.one {C:Cfg} {G:aU7} {v:Value} {d:D} (h:Rd C G v d):RdL C G [v] [d]:=.cons h .nil
theorem RdL.get {C:Cfg} {G:aU7} {vs:List Value} {ds:List D} (r:RdL C G vs ds):∀ {k:Nat} {d:D},ds[k]?=some d→∃ v,vs[k]?=some v∧Rd C G v d:=by
 refine RdL.ind (P:=fun vs ds=>∀ {k:Nat} {d:D},ds[k]?=some d→∃ v,vs[k]?=some v∧Rd C G v d) (fun e=>nomatch e) (fun h _ q=>?_) r
 intro k d e
 cases k with
 | zero=>cases Option.some.inj e;exact ⟨_,rfl,h⟩
 | succ k=>exact q e
structure Top1 (C:Cfg) (h:Heap):Prop where
 g:h.Ns mainGlobals C.mg
 b:∃ mb,h.Ns builtinsNs mb∧∀ x:Str,x≠"__name__"→mb x=bootBuiltins x
 nolimit:h.NoLimit
 kin:C.K.In h
 bm:∃ bm ob,C.mg "__builtins__"=some (.ref bm)∧bm≠builtinsNs∧h.get? bm=some ob∧ob.cls=.type "module"∧ob.dict=some builtinsNs∧ob.data=.plain
theorem Ns.ext1 {C:Cfg} {h h':Heap} (e:Ext C.PT h h') {a:Addr} {m:Str→Option Value} (ha:C.PT≠a) (n:h.Ns a m):h'.Ns a m:=by
 obtain ⟨o,es,ep,ho,r⟩:=n
 exact ⟨o,es,ep,e _ _ ho (.inr (Ne.symm ha)),r⟩
theorem Top1.ext {C:Cfg} {h h':Heap} (T:Top1 C h) (e:Ext C.PT h h'):Top1 C h' where
 g:=Ns.ext1 e C.ptg T.g
 b:=let ⟨mb,a,b⟩:=T.b;⟨mb,Ns.ext1 e C.ptb a,b⟩
 nolimit:=let ⟨mc,a,b⟩:=T.nolimit;⟨mc,Ns.ext1 e C.pts a,b⟩
 kin:=fun a o q=>e a o (T.kin a o q) (C.Kcls a o q)
 bm:=let ⟨bm,ob,a,b,c,d,f⟩:=T.bm;⟨bm,ob,a,b,e bm ob c (.inl (by rw [d];simp)),d,f⟩
structure SOk (C:Cfg) (s:Shared):Prop where
 top:Top1 C s.heap
 tab:C.tab s.heap
 bare:AllBare s.gens
structure Go (C:Cfg) (s s':Shared):Prop where
 ext:Ext C.PT s.heap s'.heap
 tab:C.tab s.heap→C.tab s'.heap
 os:s'.os=s.os
 gens:AllBare s.gens→AllBare s'.gens
theorem Go.refl {C:Cfg} (s:Shared):Go C s s:=⟨.refl _ _,id,rfl,id⟩
theorem Go.trans {C:Cfg} {s s' s'':Shared} (a:Go C s s') (b:Go C s' s''):Go C s s'':=⟨a.ext.trans b.ext,b.tab ∘ a.tab,b.os.trans a.os,b.gens ∘ a.gens⟩
theorem SOk.go {C:Cfg} {s s':Shared} (S:SOk C s) (g:Go C s s'):SOk C s':=⟨S.top.ext g.ext,g.tab S.tab,g.gens S.bare⟩
theorem Go.keep {C:Cfg} {s:Shared} {h':Heap} {d:Drawn} {tk:Nat} (k:∀ b o,s.heap.get? b=some o→h'.get? b=some o):Go C s ⟨h',s.gens,d,tk,s.os⟩ :=
 ⟨.of_keep k,C.tabMono _ _ fun b o e _=>k b o e,rfl,id⟩
theorem Go.tok {C:Cfg} {s:Shared} {d:Drawn} {tk:Nat}:Go C s ⟨s.heap,s.gens,d,tk,s.os⟩:=.keep fun _ _ e=>e
theorem Go.push {C:Cfg} {s:Shared} (o:Obj) {d:Drawn} {tk:Nat}:Go C s ⟨s.heap.push o,s.gens,d,tk,s.os⟩:=.keep fun _ _ e=>Heap.get?_push_of_some _ e
noncomputable def PE (C:Cfg) (A:Around) (Mu:Addr→Bool) (t:Sem Value) (s:Shared) (d:D):Prop :=
 ∀ (Q:Value→Shared→Prop) (E:Value→Shared→Prop),(∀ v s',Go C s s'→Rd C (Fz s'.heap Mu) v d→Q v s')→wpAny (model C.prog C.w) A t Q E s
theorem PE.mu {C:Cfg} {A:Around} {Mu Mu':Addr→Bool} {t:Sem Value} {s:Shared} {d:D} (h:PE C A Mu t s d) (e:∀ a,Mu' a=true→Mu a=true):PE C A Mu' t s d :=
 fun Q E k=>h Q E fun v s' g r=>k v s' g (r.mono (.mu e))
noncomputable def aL8 (o:Obj):Prop:=o.cls≠.none∧o.cls≠.type "code"
noncomputable def MuOk (C:Cfg) (Mu:Addr→Bool) (h:Heap):Prop:=∀ a,Mu a=true→a≠C.PT∧∃ o,h.get? a=some o∧aL8 o
theorem MuOk.lt {C:Cfg} {h:Heap} {Mu:Addr→Bool} (M:MuOk C Mu h) {a:Addr} (e:Mu a=true):a < h.objs.size:=let ⟨_,_,q,_⟩:=M a e;Heap.lt_size q
theorem MuOk.ext {C:Cfg} {h h':Heap} {Mu:Addr→Bool} (M:MuOk C Mu h) (e:Ext C.PT h h'):MuOk C Mu h':=fun a m=>let ⟨c,o,q,u⟩:=M a m;⟨c,o,e a o q (.inr c),u⟩
theorem MuOk.fresh {C:Cfg} {h:Heap} {Mu:Addr→Bool} (M:MuOk C Mu h):Mu h.objs.size=false:=by
 cases e:Mu h.objs.size with
 | false=>rfl
 | true=>exact absurd (M.lt e) (Nat.lt_irrefl _)
theorem MuOk.noMu (C:Cfg) (h:Heap):MuOk C noMu h:=fun _ e=>nomatch e
theorem Fz.push {C:Cfg} {h:Heap} {Mu:Addr→Bool} (M:MuOk C Mu h) {o:Obj} (hf:o.isFreed=false):Fz (h.push o) Mu h.objs.size=some o:=by
 dsimp only [Fz]
 rw [if_neg (by rw [M.fresh];exact Bool.false_ne_true)]
 exact Heap.get?_push_size _ hf
end Mine
end
section
open PySem PySem.W PyProof.Rows PySem.Calls PySem.Spec
namespace Mine
noncomputable def lim:Nat:=4096
inductive BOp | add | sub | mul | mod | fdiv | pow
 deriving DecidableEq
inductive COp | eq | ne | lt | le | gt | is_ | isNot | in_ | notIn
 deriving DecidableEq
noncomputable def bO4:BOp→Operator
 | .add=>.Add | .sub=>.Sub | .mul=>.Mult | .mod=>.Mod | .fdiv=>.FloorDiv | .pow=>.Pow
noncomputable def aU6:COp→CmpOp
 | .eq=>.Eq | .ne=>.NotEq | .lt=>.Lt | .le=>.LtE | .gt=>.Gt | .is_=>.Is | .isNot=>.IsNot | .in_=>.In | .notIn=>.NotIn
noncomputable def i2 {β:Type} (f:Int→Int→Option β):D→D→Option β
 | .int a,.int b=>f a b
 | _,_=>none
theorem Al.i2 {β:Type} {T:β→Prop} {f:Int→Int→Option β} {a b:D} (h:∀ x y,a=.int x→b=.int y→Al (f x y) T):Al (i2 f a b) T:=by
 cases a with
 | int x=>cases b with
  | int y=>exact h x y rfl rfl
  | _=>exact Al.none
 | _=>exact Al.none
noncomputable def eY1:D→D→Option D
 | .int a,.int b=>some (.int (a+b))
 | .str x,.str y=>if x.length+y.length≤lim then some (.str (x++y)) else none
 | _,_=>none
noncomputable def eV0:D→D→Option D
 | .int a,.int b=>if a.natAbs < 2 ^ 32 then some (.int (a*b)) else none
 | .str x,.int n=>if x.length≤16∧0≤n∧n≤64 then some (.str (Txt.mul x n)) else none
 | .lst ds,.int n=>if 0≤n∧n≤1000∧ds.length*n.toNat≤256 then some (.lst (List.replicate n.toNat ds).flatten) else none
 | _,_=>none
noncomputable def cV3:BOp→D→D→Option D
 | .add=>eY1
 | .sub=>i2 fun a b=>some (.int (a - b))
 | .mul=>eV0
 | .mod=>i2 fun a b=>if b=0 then none else some (.int (a.fmod b))
 | .fdiv=>i2 fun a b=>if 0 < b∧b < 2 ^ 32 then some (.int (a.fdiv b)) else none
 | .pow=>i2 fun a b=>if 0≤b∧b≤1000∧a.natAbs < 2 ^ 32 then some (.int (a ^ b.toNat)) else none
theorem aW3 {a b:Int}:cV3 .mod (.int a) (.int b)=if b=0 then none else some (.int (a.fmod b)):=rfl
theorem bO3 {a b:Int}:cV3 .fdiv (.int a) (.int b)=if 0 < b∧b < 2 ^ 32 then some (.int (a.fdiv b)) else none:=rfl
theorem cV2 {a b:Int}:cV3 .pow (.int a) (.int b)=if 0≤b∧b≤1000∧a.natAbs < 2 ^ 32 then some (.int (a ^ b.toNat)) else none:=rfl
theorem dH2 {a b:Int}:cV3 .mul (.int a) (.int b)=if a.natAbs < 2 ^ 32 then some (.int (a*b)) else none:=rfl
theorem dH0 {x:Str} {n:Int}:cV3 .mul (.str x) (.int n)=if x.length≤16∧0≤n∧n≤64 then some (.str (Txt.mul x n)) else none:=rfl
theorem dH1 {ds:List D} {n:Int}:cV3 .mul (.lst ds) (.int n)=if 0≤n∧n≤1000∧ds.length*n.toNat≤256 then some (.lst (List.replicate n.toNat ds).flatten) else none:=rfl
section
variable {C:Cfg} {A:Around} {Mu:Addr→Bool} {s:Shared}
theorem aZ3 {v:Value} {ds:List D} {h:Heap} (r:Rd C (Fz h Mu) v (.lst ds)):∃ a vs n,v=.ref a∧h.get? a=some (aB2 vs n)∧RdL C (Fz h Mu) vs ds :=
 by obtain ⟨a,vs,n,e,g,r⟩:=r.inv;exact ⟨a,vs,n,e,VLe.heap _ _ g aV8,r⟩
theorem aI6 {h:Heap} {a:Addr} {vs:List Value} {n:Nat} (e:h.get? a=some (aB2 vs n)):h.IsList a vs.toArray:=⟨_,e,rfl,n,rfl⟩
theorem bM8 {h:Heap} {a:Addr} {vs:List Value} {n:Nat} (e:h.get? a=some (aU9 vs n)):h.IsTuple a vs.toArray:=⟨_,e,rfl,n,rfl⟩
theorem aV6 {G:aU7} {vs:List Value} {ds:List D} (r:RdL C G vs ds):∀ n:Nat,RdL C G (List.replicate n vs).flatten (List.replicate n ds).flatten
 | 0=>.nil
 | n+1=>by
  rw [List.replicate_succ,List.replicate_succ,List.flatten_cons,List.flatten_cons]
  exact r.append (aV6 r n)
theorem cS9 (n:Nat) (vs:List Value):List.foldl (fun x1 x2=>x1++x2) (#[]:Array Value) (List.replicate (if vs.toArray.isEmpty=true then 0 else n) vs.toArray)=(List.replicate n vs).flatten.toArray:=by
 have key:∀ (k:Nat) (acc:Array Value),List.foldl (fun x1 x2=>x1++x2) acc (List.replicate k vs.toArray)=acc++(List.replicate k vs).flatten.toArray:=by
  intro k
  induction k with
  | zero=>intro acc;simp
  | succ k ih=>intro acc;rw [List.replicate_succ,List.foldl_cons,ih];simp [List.replicate_succ]
 rw [key]
 cases vs with
 | nil=>simp
 | cons v vs=>simp
theorem cR1 {prog:Program} {w:World} {E:Value→Shared→Prop} {l:Addr} {vs:List Value} {k:Nat} {x:Int} {u:Tok} {Q:Value→Shared→Prop}
  (hl:s.heap.get? l=some (aB2 vs k)) (hlo:-(2 ^ 63:Int)≤x) (hhi:x < 2 ^ 63) (hsz:vs.length*x.toNat≤2 ^ 24)
  (h:Q (.ref s.heap.objs.size) { s with heap:=s.heap.push (aB2 (List.replicate x.toNat vs).flatten 0) }) :
  wpAny (model prog w) A (binaryOp .Mult (.ref l) (.int x u)) Q E s :=
 wpAny_binaryOp_repeat_ref (T:="list") (U:="int") (by decide) ⟨_,hl,rfl⟩ (fun s'=>typeIs_int s' x u) noFill_list_mul F.fills_int_mul F.slot_int_rmul repeat_list F.slot_int_index.lookup
  (call_meets F.slot_int_rmul (typeIs_int s x u) F.entry_int_rmul (F.args_int_rmul_2 _ _) (int___rmul___int_list x u l vs.toArray k)
   ⟨hl,rfl,⟨_,hl,rfl⟩,call_meets F.slot_list_mul ⟨_,hl,rfl⟩ F.entry_list_mul (F.args_list_mul_2 _ _)
    (AutoListH.list___mul___list_int_3 l vs.toArray k x u (by simp [Builtin.List.listFitsIndex];lia) (by rw [show vs.toArray.size=vs.length by simp];exact bQ9 (aA9 hsz (cl rfl))) (by rw [show vs.toArray.size=vs.length by simp];simp [Builtin.List.listTooLong,sizeLine];exact hsz))
    ⟨hl,by rw [cS9];exact h⟩⟩)
theorem bX2 {a:Int} (h:a.natAbs < 2 ^ 32):Builtin.Int.intBits a≤64:=intBits_le_64 (eM3 h rfl) (eM2 h rfl)
theorem dS4 {b:Int} (hz:0 < b∧b < 2 ^ 32):b.natAbs.log2 < 32:=by
 by_cases hb:b.natAbs=0
 ·rw [hb];decide
 ·exact (Nat.log2_lt hb).mpr (dS0 (i_l hz.1) hz.2 rfl)
theorem dC8 {a b:Int} (h:a.natAbs < 2 ^ 32):IntMulOk a b:=by
 unfold IntMulOk
 have:=bX2 h
 intro e
 simp only [Bool.and_eq_true,decide_eq_true_eq] at e
 have q:shortFactorBits=64:=rfl
 lia
theorem eE9 (M:MuOk C Mu s.heap) (op:BOp) {a b d:D} {u v:Value} (h:cV3 op a b=some d) (ru:Rd C (Fz s.heap Mu) u a) (rv:Rd C (Fz s.heap Mu) v b) :
  PE C A Mu (binaryOp (bO4 op) u v) s d:=by
 refine (?_:Al (cV3 op a b) (PE C A Mu (binaryOp (bO4 op) u v) s)) d h
 clear h
 cases op with
 | add=>cases a with
  | int x=>cases b with
   | int y =>
    obtain ⟨t,rfl⟩:=ru.inv
    obtain ⟨t',rfl⟩:=rv.inv
    exact Al.some fun Q E k=>add_int (k _ _ .tok (.int _ _))
   | _=>exact Al.none
  | str x=>cases b with
   | str y =>
    obtain ⟨t,rfl⟩:=ru.inv
    obtain ⟨t',rfl⟩:=rv.inv
    exact Al.ite fun hz=>Al.some fun Q E k=>add_str (fun t' tk=>k _ _ .tok (.str _ _)) (aA9 hz (by decide))
   | _=>exact Al.none
  | _=>exact Al.none
 | sub =>
  refine Al.i2 fun x y ea eb=>?_
  cases ea;cases eb
  obtain ⟨t,rfl⟩:=ru.inv
  obtain ⟨t',rfl⟩:=rv.inv
  exact Al.some fun Q E k=>PyProof.Rows.sub_int (k _ _ .tok (.int _ _))
 | mul=>cases b with
  | int y =>
   obtain ⟨t',rfl⟩:=rv.inv
   cases a with
   | int x =>
    obtain ⟨t,rfl⟩:=ru.inv
    exact Al.ite fun hz=>Al.some fun Q E k=>PyProof.Rows.mul_int (k _ _ .tok (.int _ _)) (dC8 hz)
   | str x =>
    obtain ⟨t,rfl⟩:=ru.inv
    exact Al.ite fun hz=>Al.some fun Q E k=>SB.mul (mulOk_of 16 64 hz.1 hz.2.2 (cI2 (bA0 rfl) hz.2.1) (by decide) (by decide)) fun t' tk=>k _ _ .tok (.str _ _)
   | lst ds =>
    obtain ⟨l,vs,n,rfl,e,r⟩:=aZ3 ru
    have hlen:=r.length
    refine Al.ite fun hz=>Al.some fun Q E k=>cR1 e (Int.le_trans (by decide) hz.1) (Int.lt_of_le_of_lt hz.2.1 (by decide)) (by rw [hlen];exact aA9 hz.2.2 (by decide)) (k _ _ (.push _) (.lst (Fz.push M rfl) (RdL.mono ?_ (aV6 r _))))
    exact VLe.ext (PT:=C.PT) (.of_keep fun _ _ e=>Heap.get?_push_of_some _ e)
   | _=>exact Al.none
  | _=>cases a<;>exact Al.none
 | mod =>
  refine Al.i2 fun x y ea eb=>?_
  cases ea;cases eb
  obtain ⟨t,rfl⟩:=ru.inv
  obtain ⟨t',rfl⟩:=rv.inv
  exact Al.ite2 (fun _=>Al.none) fun hz=>Al.some fun Q E k=>mod_int' hz (k _ _ .tok (.int _ _))
 | fdiv =>
  refine Al.i2 fun x y ea eb=>?_
  cases ea;cases eb
  obtain ⟨t,rfl⟩:=ru.inv
  obtain ⟨t',rfl⟩:=rv.inv
  exact Al.ite fun hz=>Al.some fun Q E k=>floordiv_int (Int.ne_of_gt hz.1) (k _ _ .tok (.int _ _)) (.inl (PyProof.noPylong_of_log2 (aM7 (dS4 hz) (by decide))))
 | pow =>
  refine Al.i2 fun x y ea eb=>?_
  cases ea;cases eb
  obtain ⟨t,rfl⟩:=ru.inv
  obtain ⟨t',rfl⟩:=rv.inv
  exact Al.ite fun hz=>Al.some fun Q E k=>pow_int_small hz.1 (by have:=hz.2.1;exact cI2 this (by decide)) (by have:=hz.2.2;exact aM7 this (cl rfl)) (k _ _ .tok (.int _ _))
end
mutual
noncomputable def pd:D→PyData
 | .none=>.none
 | .bool b=>.bool b
 | .int i=>.int i
 | .str x=>.str x
 | .tup ds=>.tuple (pds ds)
 | .lst ds=>.list (pds ds)
 | .bytes _=>.none
 | .dct _=>.none
 | .barr _=>.none
 | .ent _=>.none
 | .pat=>.none
noncomputable def pds:List D→List PyData
 | []=>[]
 | d::ds=>pd d::pds ds
end
mutual
noncomputable def aB0 (n:Nat):D→Bool
 | .none=>true
 | .bool _=>true
 | .int _=>true
 | .str x=>PyData.strOk x
 | .tup ds=>decide (0 < n)&&aF4 (n - 1) ds
 | .lst ds=>decide (0 < n)&&aF4 (n - 1) ds
 | .bytes _=>false
 | .dct _=>false
 | .barr _=>false
 | .ent _=>false
 | .pat=>false
noncomputable def aF4 (n:Nat):List D→Bool
 | []=>true
 | d::ds=>aB0 n d&&aF4 n ds
end
theorem aX3 {C:Cfg} {h:Heap} {Mu:Addr→Bool} {v:Value} {d:D} (n:Nat) (r:Rd C (Fz h Mu) v d) (hk:aB0 n d=true):∃ as,Reads h v (pd d) as:=by
 revert n hk
 refine Rd.rec (motive_1:=fun v d _=>∀ n,aB0 n d=true→∃ as,Reads h v (pd d) as) (motive_2:=fun vs ds _=>∀ n,aF4 n ds=true→∃ as,ReadsAll h vs (pds ds) as)
  (fun _ _=>⟨_,Reads.none⟩) (fun b _ _=>⟨_,Reads.bool b⟩) (fun i t _ _=>⟨_,Reads.int i t⟩) (fun x t _ _=>⟨_,Reads.str x t⟩) (fun _ _ _ hk=>?_) (fun e _ ih n hk=>?_) (fun e _ ih n hk=>?_) (fun _ _ _ _ _ hk=>?_) (fun _ _ hk=>?_) (fun _ _ _ _ _ _ _ _ hk=>?_) (fun _ hk=>?_)
  (fun _ _=>⟨_,ReadsAll.nil⟩) (fun _ _ ih1 ih2 n hk=>?_) r
 ·exact noB hk
 ·obtain ⟨as,q⟩:=ih _ (Bool.and_eq_true_iff.mp hk).2
  exact ⟨as,reads_tuple_at (VLe.heap _ _ e cM7) rfl rfl (q)⟩
 ·obtain ⟨as,q⟩:=ih _ (Bool.and_eq_true_iff.mp hk).2
  exact ⟨_,reads_list_at (VLe.heap _ _ e aV8) rfl rfl (q)⟩
 ·exact noB hk
 ·exact noB hk
 ·exact noB hk
 ·exact noB hk
 ·obtain ⟨as,q⟩:=ih1 n (Bool.and_eq_true_iff.mp hk).1
  obtain ⟨bs,p⟩:=ih2 n (Bool.and_eq_true_iff.mp hk).2
  exact ⟨_,ReadsAll.cons q p⟩
theorem bJ4 (d:D):∀ n,aB0 n d=true→(pd d).canLay0=true∧(pd d).depth≤n:=by
 refine D.rec (motive_1:=fun d=>∀ n,aB0 n d=true→(pd d).canLay0=true∧(pd d).depth≤n) (motive_2:=fun ds=>∀ n,aF4 n ds=true→PyData.canLayAll0 (pds ds)=true∧PyData.depthAll (pds ds)≤n)
  (fun _ _=>⟨rfl,Nat.zero_le _⟩) (fun _ _ _=>⟨rfl,Nat.zero_le _⟩) (fun _ _ _=>⟨rfl,Nat.zero_le _⟩) (fun x n h=>⟨h,Nat.zero_le _⟩) (fun _ n h=>?_) (fun ds ih n h=>?_) (fun ds ih n h=>?_) (fun _ n h=>?_) (fun _ n h=>?_) (fun _ _ n h=>?_) (fun n h=>?_)
  (fun _ _=>⟨rfl,Nat.zero_le _⟩) (fun d ds ih1 ih2 n h=>?_) d
 ·exact noB h
 ·obtain ⟨h0,h⟩:=Bool.and_eq_true_iff.mp h
  have q:=ih _ h
  have h0:=of_decide_eq_true h0
  exact ⟨q.1,aA9 (Nat.succ_le_succ q.2) (Nat.le_of_eq (Nat.sub_add_cancel h0))⟩
 ·obtain ⟨h0,h⟩:=Bool.and_eq_true_iff.mp h
  have q:=ih _ h
  have h0:=of_decide_eq_true h0
  exact ⟨q.1,aA9 (Nat.succ_le_succ q.2) (Nat.le_of_eq (Nat.sub_add_cancel h0))⟩
 ·exact noB h
 ·exact noB h
 ·exact noB h
 ·exact noB h
 ·obtain ⟨h1,h2⟩:=Bool.and_eq_true_iff.mp h
  have q:=ih1 n h1
  have p:=ih2 n h2
  exact ⟨Bool.and_eq_true_iff.mpr ⟨q.1,p.1⟩,Nat.max_le.mpr ⟨q.2,p.2⟩⟩
theorem cP6 (n:Nat) (d:D) (h:aB0 n d=true):(pd d).canLay0=true∧(pd d).depth≤n:=bJ4 d n h
theorem cG0 (n:Nat) (ds:List D) (h:aF4 n ds=true):PyData.canLayAll0 (pds ds)=true∧PyData.depthAll (pds ds)≤n:=by
 have q:=bJ4 (.lst ds) (n+1) h
 exact ⟨q.1,Nat.le_of_succ_le_succ q.2⟩
theorem aM8 {n:Nat} {d:D} (h:aB0 n d=true) (hn:n≤64):SeqAt.shaped (pd d)=true:=by
 have q:=cP6 n d h
 unfold SeqAt.shaped
 rw [q.1,Bool.true_and]
 exact decide_eq_true (aA9 q.2 hn)
noncomputable def aZ9 (x y:Str):Bool:=!(Builtin.Str.occurrences y x 0 y.length 1).isEmpty
noncomputable def dD5:D→Option Key
 | .int i=>some (.inl i)
 | .str x=>some (.inr x)
 | _=>none
noncomputable def eqX:D→D→Option Bool
 | .bytes a,.bytes b=>some (a == b)
 | .dct a,.dct b=>if a=b then some true else none
 | _,_=>none
noncomputable def neX:D→D→Option Bool
 | .dct a,.dct b=>if a=b then some false else none
 | _,_=>none
noncomputable def eqD (a b:D):Option Bool:=if (aB0 4 a&&aB0 4 b)=true then some (PyData.eqv (pd a) (pd b)) else eqX a b
noncomputable def neD (a b:D):Option Bool:=if (aB0 4 a&&aB0 4 b)=true then some (!PyData.eqv (pd a) (pd b)) else neX a b
noncomputable def isD:D→D→Option Bool
 | .none,.none=>some true
 | .str _,.none=>some false
 | _,_=>none
noncomputable def eB8:D→D→Option Bool
 | .bool a,.bool b=>some (a != b)
 | _,_=>none
noncomputable def inD:D→D→Option Bool
 | .str x,.str y=>some (aZ9 x y)
 | .str x,.lst ds=>if (PyData.strOk x&&aF4 3 ds)=true then some ((pds ds).any fun y=>PyData.eqv y (.str x)) else none
 | .str x,.dct kvs=>some (kvs.any fun p=>decide (p.1=.inr x))
 | .int i,.dct kvs=>some (kvs.any fun p=>decide (p.1=.inl i))
 | _,_=>none
noncomputable def eA5:D→D→Option Bool
 | .str x,.str y=>some (!aZ9 x y)
 | _,_=>none
noncomputable def bG5:COp→D→D→Option Bool
 | .eq=>eqD
 | .ne=>neD
 | .lt=>i2 fun a b=>some (decide (a < b))
 | .le=>i2 fun a b=>some (decide (a≤b))
 | .gt=>i2 fun a b=>some (decide (b < a))
 | .is_=>isD
 | .isNot=>eB8
 | .in_=>inD
 | .notIn=>eA5
structure Room (A:Around):Prop where
 handled:A.handled=none
 units:A.units+200 < cLine
section
variable {C:Cfg} {A:Around} {Mu:Addr→Bool} {s:Shared}
theorem aM3 {v:Value} {kvs:List (Key × Int)} {h:Heap} (r:Rd C (Fz h Mu) v (.dct kvs)) :
  ∃ a ps,v=.ref a∧h.DictOf (aC0 C.prog C.w) a ps∧IntVals ps kvs∧(a == sysModules)=false :=
 by obtain ⟨a,o,ps,e,g,r,i,z⟩:=r.inv;exact ⟨a,ps,e,Heap.dictOf_iff.mpr ⟨o,VLe.heap _ _ g (IsDictOf.cls r),r⟩,i,z⟩
theorem IntVals.keys {ps:List (Key × Value)} {kvs:List (Key × Int)} (r:IntVals ps kvs):ps.map (·.1)=kvs.map (·.1):=by
 induction r with
 | nil=>rfl
 | cons r ih=>exact congrArg (_::·) ih
theorem IntVals.length {ps:List (Key × Value)} {kvs:List (Key × Int)} (h:IntVals ps kvs):ps.length=kvs.length:=by
 have:=congrArg List.length h.keys;simpa using this
theorem IntVals.at {ps:List (Key × Value)} {kvs:List (Key × Int)} (r:IntVals ps kvs) (k:Key):(valueAt ps k).isSome=kvs.any (fun p=>decide (p.1=k)):=by
 induction r with
 | nil=>rfl
 | cons r ih =>
  rename_i k' i t ps qs
  dsimp only [valueAt] at ih ⊢
  rw [List.find?_cons,List.any_cons]
  by_cases h:k'=k
  ·subst h;simp
  ·simp only [h,decide_false,Bool.false_or]
   exact ih
theorem cB2 {kb ka:List (Key × Value)} {kvs:List (Key × Int)} (ib:IntVals kb kvs) (hn:(kb.map (·.1)).Nodup) :
  ∀ (ka:List (Key × Value)) (qs:List (Key × Int)),IntVals ka qs→(∀ q∈qs,q∈kvs)→KeqHits A s kb ka true:=by
 intro ka qs r
 induction r with
 | nil=>exact fun _=>.nil
 | cons r ih =>
  rename_i k i t ps qs
  intro hm
  have rest:=ih fun q hq=>hm q (.tail _ hq)
  have key:∀ {kb:List (Key × Value)} {kvs:List (Key × Int)},IntVals kb kvs→(kb.map (·.1)).Nodup→(k,i)∈kvs→∃ t',valueAt kb k=some (.int i t'):=by
   intro kb kvs ib hn hm
   induction ib with
   | nil=>cases hm
   | cons r ih =>
    rename_i k' i' t' ps' qs'
    unfold valueAt
    rw [List.map_cons,List.nodup_cons] at hn
    by_cases h:k'=k
    ·subst h
     have e:i'=i:=by
      rcases List.mem_cons.mp hm with e | e
      ·exact (Prod.mk.inj e).2.symm
      ·exact absurd (by rw [IntVals.keys r];exact List.mem_map_of_mem (f:=(·.1)) e) hn.1
     subst e
     exact ⟨t',by simp⟩
    ·rw [List.find?_cons]
     simp only [h,decide_false]
     exact ih hn.2 ((List.mem_cons.mp hm).resolve_left fun e=>h (Prod.mk.inj e).1.symm)
  obtain ⟨t',hv⟩:=key ib hn (hm _ (.head _))
  have e:SeqAt.EqAt A s (.int i t) (.int i t') true:=fun prog w E Q hq=>wpAny_eqBool_int (by simpa using hq)
  exact KeqHits.hit hv e rest
theorem dB4 {a b:D} {u v:Value} (hu:A.units+200 < cLine) (ru:Rd C (Fz s.heap Mu) u a) (rv:Rd C (Fz s.heap Mu) v b) (hp:(aB0 4 a&&aB0 4 b)=true) {E:Value→Shared→Prop} {Q:Value→Shared→Prop} (h:Q (.bool (PyData.eqv (pd a) (pd b))) s):wpAny (model C.prog C.w) A (compareOp .Eq u v) Q E s:=by
 obtain ⟨h1,h2⟩:=Bool.and_eq_true_iff.mp hp
 obtain ⟨as,ra⟩:=aX3 4 ru h1
 obtain ⟨bs,rb⟩:=aX3 4 rv h2
 exact eq_dataH ra rb (aM8 h1 (by decide)) (aM8 h2 (by decide)) (cO9 hu rfl) h
theorem dB3 {a b:D} {u v:Value} (hu:A.units+200 < cLine) (ru:Rd C (Fz s.heap Mu) u a) (rv:Rd C (Fz s.heap Mu) v b) (hp:(aB0 4 a&&aB0 4 b)=true) {E:Value→Shared→Prop} {Q:Value→Shared→Prop} (h:Q (.bool (!PyData.eqv (pd a) (pd b))) s):wpAny (model C.prog C.w) A (compareOp .NotEq u v) Q E s:=by
 obtain ⟨h1,h2⟩:=Bool.and_eq_true_iff.mp hp
 obtain ⟨as,ra⟩:=aX3 4 ru h1
 obtain ⟨bs,rb⟩:=aX3 4 rv h2
 exact ne_dataH ra rb (aM8 h1 (by decide)) (aM8 h2 (by decide)) (cO9 hu rfl) h
theorem cV0 (a b:Array UInt8):(a.toList == b.toList)=(a == b):=by
 by_cases h:a=b
 ·subst h;rw [beq_self_eq_true,beq_self_eq_true]
 ·rw [beq_eq_false_iff_ne.mpr h,beq_eq_false_iff_ne.mpr fun z=>h (Array.toList_inj.mp z)]
noncomputable def CW (C:Cfg) (A:Around) (s:Shared) (t:Sem Value) (r:Bool):Prop:=∀ (Q:Value→Shared→Prop) (E:Value→Shared→Prop),(∀ s',Go C s s'→s'.heap=s.heap→Q (.bool r) s')→wpAny (model C.prog C.w) A t Q E s
theorem eE4 (R:Room A) (op:COp) {a b:D} {u v:Value} (ru:Rd C (Fz s.heap Mu) u a) (rv:Rd C (Fz s.heap Mu) v b):Al (bG5 op a b) (CW C A s (compareOp (aU6 op) u v)):=by
 have hu:=R.units
 cases op with
 | eq =>
  refine Al.ite2 (fun hp=>Al.some fun Q E k=>dB4 hu ru rv hp (k s (.refl _) rfl)) fun _=>?_
  cases a with
  | bytes x=>cases b with
   | bytes y =>
    obtain ⟨t,rfl⟩:=ru.inv
    obtain ⟨t',rfl⟩:=rv.inv
    exact Al.some fun Q E k=>eq_bytes (cV0 x y ▸ k s (.refl _) rfl)
   | _=>exact Al.none
  | dct x=>cases b with
   | dct y =>
    refine Al.ite fun e=>Al.some fun Q E k=>?_
    cases e
    obtain ⟨x,ps,rfl,dx,ix,zx⟩:=aM3 ru
    obtain ⟨y,qs,rfl,dy,iy,zy⟩:=aM3 rv
    refine keq_eq zx zy dx dy (bH6 hu) (fun _=>cB2 (ka:=[]) iy (by obtain ⟨_,_,_,_,_,_,_,_,n⟩:=dy;exact n) _ _ ix fun _ h=>h) ?_
    rw [ix.length,iy.length,beq_self_eq_true]
    exact k s (.refl _) rfl
   | _=>exact Al.none
  | _=>exact Al.none
 | ne =>
  refine Al.ite2 (fun hp=>Al.some fun Q E k=>dB3 hu ru rv hp (k s (.refl _) rfl)) fun _=>?_
  cases a with
  | dct x=>cases b with
   | dct y =>
    refine Al.ite fun e=>Al.some fun Q E k=>?_
    cases e
    obtain ⟨x,ps,rfl,dx,ix,zx⟩:=aM3 ru
    obtain ⟨y,qs,rfl,dy,iy,zy⟩:=aM3 rv
    refine keq_ne zx zy dx dy (bH6 hu) (fun _=>cB2 (ka:=[]) iy (by obtain ⟨_,_,_,_,_,_,_,_,n⟩:=dy;exact n) _ _ ix fun _ h=>h) ?_
    rw [ix.length,iy.length,beq_self_eq_true]
    exact k s (.refl _) rfl
   | _=>exact Al.none
  | _=>exact Al.none
 | lt =>
  refine Al.i2 fun x y ea eb=>Al.some fun Q E k=>?_
  cases ea;cases eb
  obtain ⟨t,rfl⟩:=ru.inv
  obtain ⟨t',rfl⟩:=rv.inv
  exact PyProof.Rows.lt_int (k s (.refl _) rfl)
 | le =>
  refine Al.i2 fun x y ea eb=>Al.some fun Q E k=>?_
  cases ea;cases eb
  obtain ⟨t,rfl⟩:=ru.inv
  obtain ⟨t',rfl⟩:=rv.inv
  exact PyProof.Rows.le_int (k s (.refl _) rfl)
 | gt =>
  refine Al.i2 fun x y ea eb=>Al.some fun Q E k=>?_
  cases ea;cases eb
  obtain ⟨t,rfl⟩:=ru.inv
  obtain ⟨t',rfl⟩:=rv.inv
  exact PyProof.Rows.gt_int (k s (.refl _) rfl)
 | is_=>cases b with
  | none =>
   cases rv.inv
   cases a with
   | none=>cases ru.inv;exact Al.some fun Q E k=>wpAny_is_plain rfl (k s (.refl _) rfl)
   | str x =>
    obtain ⟨t,rfl⟩:=ru.inv
    refine Al.some fun Q E k=>wpAny_is_plain rfl ?_
    rw [show (Value.str _ _ == Value.none)=false from beq_eq_false_iff_ne.mpr Value.noConfusion]
    exact k s (.refl _) rfl
   | _=>exact Al.none
  | _=>cases a<;>exact Al.none
 | isNot=>cases a with
  | bool x=>cases b with
   | bool y =>
    cases ru.inv;cases rv.inv
    refine Al.some fun Q E k=>wpAny_isNot_plain rfl ?_
    have e:(!(Value.bool x == Value.bool y))=(x != y):=by cases x<;>cases y<;>decide
    rw [e];exact k s (.refl _) rfl
   | _=>exact Al.none
  | _=>exact Al.none
 | in_=>cases a with
  | str x =>
   obtain ⟨t,rfl⟩:=ru.inv
   cases b with
   | str y=>obtain ⟨t',rfl⟩:=rv.inv;exact Al.some fun Q E k=>in_str (k s (.refl _) rfl)
   | lst ds =>
    refine Al.ite fun hp=>Al.some fun Q E k=>?_
    obtain ⟨h1,h2⟩:=Bool.and_eq_true_iff.mp hp
    obtain ⟨as,ra⟩:=aX3 4 rv h2
    have q:=cG0 3 _ h2
    refine SeqAt.in_list_reads ra (Reads.str _ _) q.1 h1 ?_ (k s (.refl _) rfl)
    have q2:=q.2
    have:=Nat.min_le_left (PyData.depthAll (pds ds)) (PyData.depth (.str x))
    lia
   | dct kvs =>
    obtain ⟨y,qs,rfl,dy,iy,zy⟩:=aM3 rv
    refine Al.some fun Q E k=>wpAny_in_of (knd:=aC0 C.prog C.w) (k:=.inr x) (by simp [aC0,dD0,Value.isStrOf]) zy dy.mapOf ?_
    rw [iy.at];exact k _ .tok rfl
   | _=>exact Al.none
  | int x=>cases b with
   | dct kvs =>
    obtain ⟨t,rfl⟩:=ru.inv
    obtain ⟨y,qs,rfl,dy,iy,zy⟩:=aM3 rv
    refine Al.some fun Q E k=>wpAny_in_of (knd:=aC0 C.prog C.w) (k:=.inl x) (by simp [aC0,dD0,Value.isInt]) zy dy.mapOf ?_
    rw [iy.at];exact k _ .tok rfl
   | _=>exact Al.none
  | _=>exact Al.none
 | notIn=>cases a with
  | str x=>cases b with
   | str y =>
    obtain ⟨t,rfl⟩:=ru.inv
    obtain ⟨t',rfl⟩:=rv.inv
    exact Al.some fun Q E k=>notIn_str (k s (.refl _) rfl)
   | _=>exact Al.none
  | _=>exact Al.none
theorem cC9 (R:Room A) (op:COp) {a b:D} {r:Bool} {u v:Value} (h:bG5 op a b=some r) (ru:Rd C (Fz s.heap Mu) u a) (rv:Rd C (Fz s.heap Mu) v b)
  (Q:Value→Shared→Prop) (E:Value→Shared→Prop) (k:∀ s',Go C s s'→s'.heap=s.heap→Q (.bool r) s'):wpAny (model C.prog C.w) A (compareOp (aU6 op) u v) Q E s:=eE4 R op ru rv r h Q E k
end
end Mine
end
section
open PySem PySem.W PyProof.Rows PySem.Calls PySem.Spec
namespace Mine
inductive LV where
 | dat (d:D)
 | own (d:D)
noncomputable abbrev Ro:=List (Nat × LV)
structure Fn where
 name:Str
 g:List D→Option D
noncomputable def aH2:List Str→Bool
 | []=>true
 | x::r=>!r.contains x&&aH2 r
set_option genCtorIdx false
mutual
inductive IE where
 | none
 | bool (b:Bool)
 | int (i:Int)
 | neg (i:Int)
 | str (x:Str)
 | var (i:Nat)
 | bin (op:BOp) (a b:IE)
 | cmp (op:COp) (a b:IE)
 | bools (isAnd:Bool) (es:IEs)
 | ite (t:IT) (a b:IE)
 | list (es:IEs)
 | tup (es:IEs)
 | dict0
 | dict1 (k v:IE)
 | dictC (kvs:List (Str × Int))
 | applies (k:Nat) (r e:IE)
 | idx (a b:IE)
 | idxO (a b:IE)
 | slcTo (a hi:IE)
 | slcFT (a lo hi:IE)
 | call (k:Nat) (es:IEs)
 | callStar (k:Nat) (e:IE)
 | len (a:IE)
 | bytesOf (a:IE)
 | barrOf (a:IE)
 | listRev (a:IE)
 | isBytes (a:IE)
 | isTup (a:IE)
 | upper (a:IE)
 | lower (a:IE)
 | join (sep:Str) (a:IE)
 | repl (a:IE) (y z:Str)
 | splitS (a:IE) (sep:Str)
 | dget (d k v:IE)
 | pat
 | reSplit (p a:IE)
 | comp (elt:IE) (x:Nat) (it:It) (ifs:ITs)
 | comp2 (elt:IE) (x y:Nat) (it:It) (ifs:ITs)
 | agents (a:IE)
inductive IEs where
 | nil
 | cons (e:IE) (es:IEs)
inductive IT where
 | cmp (op:COp) (a b:IE)
 | chain (a:IE) (o1:COp) (b:IE) (o2:COp) (c:IE)
 | bools (isAnd:Bool) (ts:ITs)
 | not (t:IT)
 | tr (e:IE)
inductive ITs where
 | nil
 | cons (t:IT) (ts:ITs)
inductive It where
 | rng1 (a:IE)
 | rng2 (a b:IE)
 | rng3 (a b c:IE)
 | seq (e:IE)
 | items (e:IE)
 | vals (e:IE)
end
noncomputable def bD1:D→Option Bool
 | .bool b=>some b
 | .str x=>if x.length < 2 ^ 40 then some (!x.cps.isEmpty) else none
 | .lst ds=>if ds.length < 2 ^ 40 then some (!ds.isEmpty) else none
 | _=>none
noncomputable def bH5:List D→Option (List Str)
 | []=>some []
 | .str x::r=>(bH5 r).map (x::·)
 | _=>none
noncomputable def bS5:List D→Option (List Int)
 | []=>some []
 | .int x::r=>(bS5 r).map (x::·)
 | _=>none
noncomputable def dictGet? (kvs:List (Key × Int)) (k:Key):Option Int:=(kvs.find? fun p=>decide (p.1=k)).map (·.2)
noncomputable def bJ8:D→D→Option D
 | .lst ds,.int i=>if 0≤i∧i < 2 ^ 40 then ds[i.toNat]? else none
 | .str x,.int i=>if -(2 ^ 40) < i∧i < 2 ^ 40 then ((seqIndex? i x.length).bind (x.cps[·]?)).map (fun c=>.str ⟨#[c]⟩) else none
 | .bytes b,.int i=>if 0≤i∧i < 2 ^ 40∧b.size < 2 ^ 30 then (b[i.toNat]?).map (fun c=>.int c.toNat) else none
 | .dct kvs,d=>(dD5 d).bind fun k=>(dictGet? kvs k).map .int
 | _,_=>none
noncomputable def dE1:D→Bool
 | .none | .bool _ | .int _ | .str _ | .bytes _=>true
 | _=>false
noncomputable def cZ9:D→Option D→D→Option D
 | .lst ds,.none,.int b=>if 0≤b∧b≤ds.length∧ds.length≤1000 then some (.lst (ds.take b.toNat)) else none
 | .lst ds,some (.int a),.int b=>if 0≤a∧a≤b∧b≤ds.length∧ds.length≤1000 then some (.lst ((ds.drop a.toNat).take (b.toNat - a.toNat))) else none
 | .str x,.none,.int b=>if b=-1∧1≤x.length∧x.length≤lim then some (.str ⟨(x.cps.toList.take (x.cps.size - 1)).toArray⟩) else none
 | _,_,_=>none
noncomputable def eB6:D→Option D
 | .lst ds=>if ds.length < 2 ^ 40 then some (.int ds.length) else none
 | .str x=>if x.length < 2 ^ 40 then some (.int x.length) else none
 | .bytes b=>if b.size≤2 ^ 30 then some (.int b.size) else none
 | _=>none
noncomputable def cA4 (a b c:Int):Option (List D) :=
 if 1≤c∧-(2 ^ 40) < a∧a < 2 ^ 40∧b < 2 ^ 40∧-(2 ^ 40) < b∧c < 2 ^ 29∧Builtin.Range.small a b c=true then some ((List.range (Builtin.Range.rangeSize a b c).toNat).map fun (i:Nat)=>D.int (a+(i:Int)*c)) else none
noncomputable def bD9 (c:Nat):Bool:=decide (48≤c)&&decide (c≤57)
noncomputable def bW0 (c:Nat):Bool:=c == 43 || c == 45 || c == 46 || c == 95
noncomputable def aT5:List Nat→List Nat→List Nat→List (List Nat)
 | [],cur,run=>if run.isEmpty then [cur] else [cur,run,[]]
 | c::r,cur,run =>
  if bD9 c=true then aT5 r cur (run++[c])
  else if run.isEmpty then (if bW0 c=true then cur::[c]::aT5 r [] [] else aT5 r (cur++[c]) [])
  else cur::run::(if bW0 c=true then []::[c]::aT5 r [] [] else aT5 r [c] [])
noncomputable def reSplit (x:Str):List Str:=(aT5 x.cps.toList [] []).map fun l=>⟨l.toArray⟩
noncomputable def dD8:Option LV→Bool
 | some (.dat _)=>true
 | _=>false
noncomputable def aP4 (ρ:Ro):Ro:=ρ.filter fun p=>dD8 (ρ.lookup p.1)
noncomputable def aQ9 (f:Ro→Option (Option D)) (b:D→Option Ro):List D→Option (List D)
 | []=>some []
 | d::ds=>(b d).bind fun ρ=>(f ρ).bind fun r=>(aQ9 f b ds).map fun rs=>match r with | some x=>x::rs | none=>rs
mutual
noncomputable def ev (Γ:List Fn):IE→Bool→Ro→Option D
 | .none,_,_=>some .none
 | .bool b,_,_=>some (.bool b)
 | .int i,_,_=>some (.int i)
 | .neg i,_,_=>some (.int (-i))
 | .str x,_,_=>some (.str x)
 | .var i,tr,ρ=>match ρ.lookup i with
  | some (.dat d)=>some d
  | some (.own d)=>if tr=true then some d else none
  | none=>none
 | .bin op a b,tr,ρ=>(ev Γ a tr ρ).bind fun x=>(ev Γ b tr ρ).bind fun y=>cV3 op x y
 | .cmp op a b,_,ρ=>(ev Γ a true ρ).bind fun x=>(ev Γ b true ρ).bind fun y=>(bG5 op x y).map .bool
 | .bools isAnd es,tr,ρ=>bX9 Γ isAnd es tr ρ
 | .ite t a b,tr,ρ=>(tst Γ t ρ).bind fun c=>if c=true then ev Γ a tr ρ else ev Γ b tr ρ
 | .list es,tr,ρ=>(evs Γ es tr ρ).bind fun ds=>if ds.length≤lim then some (.lst ds) else none
 | .tup es,tr,ρ=>(evs Γ es tr ρ).bind fun ds=>if ds.length≤lim then some (.tup ds) else none
 | .dict0,_,_=>some (.dct [])
 | .dict1 k v,_,ρ=>(ev Γ k false ρ).bind fun x=>(ev Γ v false ρ).bind fun y=>match dD5 x,y with
  | some k,.int i=>some (.dct [(k,i)])
  | _,_=>none
 | .dictC kvs,_,_=>if aH2 (kvs.map (·.1))=true∧kvs.length≤15∧kvs≠[] then some (.dct (kvs.map fun p=>(.inr p.1,p.2))) else none
 | .applies k r e,_,ρ=>(ev Γ r true ρ).bind fun x=>(ev Γ e true ρ).bind fun y=>(Γ[k]?).bind fun f=>match x with
  | .ent _=>(f.g [x,y]).bind fun d=>if dE1 d=true then some d else none
  | _=>none
 | .idx a b,tr,ρ=>(ev Γ a tr ρ).bind fun x=>(ev Γ b tr ρ).bind fun y=>bJ8 x y
 | .idxO a b,_,ρ=>(ev Γ a true ρ).bind fun x=>(ev Γ b true ρ).bind fun y=>(bJ8 x y).bind fun d=>if dE1 d=true then some d else none
 | .slcTo a hi,tr,ρ=>(ev Γ a tr ρ).bind fun x=>(ev Γ hi tr ρ).bind fun y=>cZ9 x none y
 | .slcFT a lo hi,tr,ρ=>(ev Γ a tr ρ).bind fun x=>(ev Γ lo tr ρ).bind fun z=>(ev Γ hi tr ρ).bind fun y=>cZ9 x (some z) y
 | .call k es,_,ρ=>(evs Γ es false ρ).bind fun ds=>(Γ[k]?).bind fun f=>f.g ds
 | .callStar k e,_,ρ=>(ev Γ e false ρ).bind fun d=>(Γ[k]?).bind fun f=>match d with
  | .lst ds=>if ds.length≤100 then f.g ds else none
  | _=>none
 | .len a,_,ρ=>(ev Γ a true ρ).bind eB6
 | .bytesOf a,_,ρ=>(ev Γ a true ρ).bind fun d=>match d with
  | .lst ds=>(bS5 ds).bind fun ns=>if (∀ n∈ns,0≤n∧n < 256)∧ns.length≤1000 then some (.bytes (ns.map fun n=>n.toNat.toUInt8).toArray) else none
  | .barr b=>if b.size≤1000 then some (.bytes b) else none
  | _=>none
 | .barrOf _,_,_=>Option.none
 | .listRev a,tr,ρ=>(ev Γ a tr ρ).bind fun d=>match d with
  | .lst ds=>if ds.length≤1000 then some (.lst ds.reverse) else none
  | _=>none
 | .isBytes a,_,ρ=>(ev Γ a true ρ).bind fun d=>match d with
  | .bytes _=>some (.bool true)
  | _=>none
 | .isTup a,_,ρ=>(ev Γ a true ρ).bind fun d=>match d with
  | .int _=>some (.bool false)
  | _=>none
 | .upper a,_,ρ=>(ev Γ a true ρ).bind fun d=>match d with
  | .str x=>if x.length≤lim then some (.str (Txt.upper x)) else none
  | _=>none
 | .lower a,_,ρ=>(ev Γ a true ρ).bind fun d=>match d with
  | .str x=>if x.length≤lim then some (.str (Txt.lower x)) else none
  | _=>none
 | .join sep a,_,ρ=>(ev Γ a true ρ).bind fun d=>match d with
  | .lst ds=>(bH5 ds).bind fun xs=>if JoinOk sep xs=true then some (.str (Txt.join sep xs)) else none
  | _=>none
 | .repl a y z,_,ρ=>(ev Γ a true ρ).bind fun d=>match d with
  | .str x=>if x.length≤lim∧z.length≤14∧(y == z)=false then some (.str (Txt.replace x y z)) else none
  | _=>none
 | .splitS a sep,_,ρ=>(ev Γ a true ρ).bind fun d=>match d with
  | .str x=>if x.length≤lim∧(sep.length == 0)=false then some (.lst ((Txt.split x sep).map .str)) else none
  | _=>none
 | .pat,_,_=>some .pat
 | .reSplit p a,_,ρ=>(ev Γ p true ρ).bind fun q=>(ev Γ a true ρ).bind fun d=>match q,d with
  | .pat,.str x=>if x.length≤1000 then some (.lst ((reSplit x).map .str)) else none
  | _,_=>none
 | .dget d k v,_,ρ=>(ev Γ d true ρ).bind fun d=>(ev Γ k true ρ).bind fun k=>(ev Γ v true ρ).bind fun v=>match d,dD5 k,v with
  | .dct kvs,some k,.int i=>some (.int ((dictGet? kvs k).getD i))
  | _,_,_=>none
 | .comp elt x it ifs,_,ρ=>(bI2 Γ it ρ).bind fun ds=>if ds.length≤lim then (aQ9 (fun ao=>(dJ0 Γ ifs ao).bind fun c=>if c=true then (ev Γ elt false ao).map some else some none) (fun d=>some ((x,.dat d)::aP4 ρ)) ds).map .lst else none
 | .comp2 elt x y it ifs,_,ρ=>(bI2 Γ it ρ).bind fun ds=>if ds.length≤lim then (aQ9 (fun ao=>(dJ0 Γ ifs ao).bind fun c=>if c=true then (ev Γ elt false ao).map some else some none)
   (fun d=>match d with | .tup [a,b]=>some ((y,.dat b)::(x,.dat a)::aP4 ρ) | _=>none) ds).map .lst else none
 | .agents a,tr,ρ=>(ev Γ a tr ρ).bind fun d=>match d with
  | .ent ds=>some (.lst ds)
  | _=>none
noncomputable def evs (Γ:List Fn):IEs→Bool→Ro→Option (List D)
 | .nil,_,_=>some []
 | .cons e es,tr,ρ=>(ev Γ e tr ρ).bind fun d=>(evs Γ es tr ρ).map (d::·)
noncomputable def bX9 (Γ:List Fn) (isAnd:Bool):IEs→Bool→Ro→Option D
 | .nil,_,_=>none
 | .cons e es,tr,ρ=>(ev Γ e tr ρ).bind fun d=>match es with
  | .nil=>some d
  | .cons _ _=>(bD1 d).bind fun t=>if t=isAnd then bX9 Γ isAnd es tr ρ else some d
noncomputable def tst (Γ:List Fn):IT→Ro→Option Bool
 | .cmp op a b,ρ=>(ev Γ a true ρ).bind fun x=>(ev Γ b true ρ).bind fun y=>bG5 op x y
 | .chain a o1 b o2 c,ρ=>(ev Γ a true ρ).bind fun x=>(ev Γ b true ρ).bind fun y=>(bG5 o1 x y).bind fun t=>if t=true then (ev Γ c true ρ).bind fun z=>bG5 o2 y z else some false
 | .bools isAnd ts,ρ=>aP5 Γ isAnd ts ρ
 | .not t,ρ=>(tst Γ t ρ).map (!·)
 | .tr e,ρ=>(ev Γ e true ρ).bind bD1
noncomputable def aP5 (Γ:List Fn) (isAnd:Bool):ITs→Ro→Option Bool
 | .nil,_=>some isAnd
 | .cons t ts,ρ=>(tst Γ t ρ).bind fun c=>if c=isAnd then aP5 Γ isAnd ts ρ else some c
noncomputable def dJ0 (Γ:List Fn):ITs→Ro→Option Bool
 | .nil,_=>some true
 | .cons t ts,ρ=>(tst Γ t ρ).bind fun c=>if c=true then dJ0 Γ ts ρ else some false
noncomputable def bI2 (Γ:List Fn):It→Ro→Option (List D)
 | .rng1 a,ρ=>(ev Γ a true ρ).bind fun x=>match x with
  | .int b=>cA4 0 b 1
  | _=>none
 | .rng2 a b,ρ=>(ev Γ a true ρ).bind fun x=>(ev Γ b true ρ).bind fun y=>match x,y with
  | .int a,.int b=>cA4 a b 1
  | _,_=>none
 | .rng3 a b c,ρ=>(ev Γ a true ρ).bind fun x=>(ev Γ b true ρ).bind fun y=>(ev Γ c true ρ).bind fun z=>match x,y,z with
  | .int a,.int b,.int c=>cA4 a b c
  | _,_,_=>none
 | .seq e,ρ=>(ev Γ e false ρ).bind fun x=>match x with
  | .lst ds=>some ds
  | _=>none
 | .items _,_=>none
 | .vals e,ρ=>(ev Γ e false ρ).bind fun x=>match x with
  | .dct kvs=>some (kvs.map fun p=>.int p.2)
  | _=>none
end
end Mine
end
section
open PySem PySem.W PyProof.Rows PySem.Calls PySem.Spec
set_option autoImplicit false
namespace Mine
noncomputable def Chk (p:Prop):Type:=Option (PLift p)
section
variable {p q:Prop} {α:Type}
noncomputable def yes (h:p):Chk p:=some ⟨h⟩
noncomputable def no:Chk p:=Option.none
noncomputable def Chk.ok (c:Chk p):Bool:=c.isSome
theorem Chk.of (c:Chk p) (h:c.ok=true):p:=match c,h with
 | some h,_=>h.down
noncomputable def Chk.bind (c:Chk p) (k:p→Chk q):Chk q:=Option.rec (motive:=fun _=>Chk q) Option.none (fun h=>k h.down) c
noncomputable def chB (b:Bool) (k:b=true→Chk q):Chk q:=Bool.rec (motive:=fun x=>b=x→Chk q) (fun _=>Option.none) k b rfl
noncomputable def chP (p:Prop) [Decidable p] (k:p→Chk q):Chk q:=if h:p then k h else Option.none
noncomputable def aJ2 {P:List α→Prop} (l:List α) (k:Chk (P [])):Chk (P l):=List.rec (motive:=fun l=>Chk (P l)) k (fun _ _ _=>Option.none) l
noncomputable def aR0 {P:List α→Prop} (l:List α) (k:∀ x r,Chk (P (x::r))):Chk (P l):=List.rec (motive:=fun l=>Chk (P l)) Option.none (fun x r _=>k x r) l
noncomputable def at1 {P:List α→Prop} (l:List α) (k:∀ x,Chk (P [x])):Chk (P l):=aR0 l fun x r=>aJ2 (P:=fun r=>P (x::r)) r (k x)
noncomputable def at2 {P:List α→Prop} (l:List α) (k:∀ x y,Chk (P [x,y])):Chk (P l):=aR0 l fun x r=>at1 (P:=fun r=>P (x::r)) r (k x)
noncomputable def at3 {P:List α→Prop} (l:List α) (k:∀ x y z,Chk (P [x,y,z])):Chk (P l):=aR0 l fun x r=>at2 (P:=fun r=>P (x::r)) r (k x)
noncomputable def bY4 (o:Option α) (k:∀ x,o=some x→Chk q):Chk q:=Option.rec (motive:=fun z=>o=z→Chk q) (fun _=>Option.none) k o rfl
noncomputable def bG8 {P:Option α→Prop} (o:Option α) (k:∀ x,Chk (P (some x))):Chk (P o):=Option.rec (motive:=fun o=>Chk (P o)) Option.none k o
noncomputable def cD2 {P:Option α→Prop} (o:Option α) (k:Chk (P Option.none)):Chk (P o):=Option.rec (motive:=fun o=>Chk (P o)) k (fun _=>Option.none) o
end
noncomputable def dK7 {P:Expr→Prop} (z:Expr) (k:∀ f a w p,Chk (P (.Call f a w p))):Chk (P z):=if h:z.ctorIdx=16 then Expr.Call.elim (motive_1:=fun z=>Chk (P z)) z h k else Option.none
noncomputable def aD3 {P:Expr→Prop} (z:Expr) (k:∀ x p,Chk (P (.Name x p))):Chk (P z):=if h:z.ctorIdx=23 then Expr.Name.elim (motive_1:=fun z=>Chk (P z)) z h k else Option.none
noncomputable def aM6 {P:Expr→Prop} (z:Expr) (k:∀ o m p,Chk (P (.Attribute o m p))):Chk (P z):=if h:z.ctorIdx=20 then Expr.Attribute.elim (motive_1:=fun z=>Chk (P z)) z h k else Option.none
noncomputable def aP1 {P:Expr→Prop} (z:Expr) (k:∀ c n p,Chk (P (.Constant c n p))):Chk (P z):=if h:z.ctorIdx=19 then Expr.Constant.elim (motive_1:=fun z=>Chk (P z)) z h k else Option.none
noncomputable def aK0 {P:Expr→Prop} (z:Expr) (k:∀ v s p,Chk (P (.Subscript v s p))):Chk (P z):=if h:z.ctorIdx=21 then Expr.Subscript.elim (motive_1:=fun z=>Chk (P z)) z h k else Option.none
noncomputable def cW6 {P:Expr→Prop} (z:Expr) (k:∀ l o r p,Chk (P (.BinOp l o r p))):Chk (P z):=if h:z.ctorIdx=2 then Expr.BinOp.elim (motive_1:=fun z=>Chk (P z)) z h k else Option.none
noncomputable def bU3 {P:Expr→Prop} (z:Expr) (k:∀ o x p,Chk (P (.UnaryOp o x p))):Chk (P z):=if h:z.ctorIdx=3 then Expr.UnaryOp.elim (motive_1:=fun z=>Chk (P z)) z h k else Option.none
noncomputable def bH1 {P:Expr→Prop} (z:Expr) (k:∀ l os rs p,Chk (P (.Compare l os rs p))):Chk (P z):=if h:z.ctorIdx=15 then Expr.Compare.elim (motive_1:=fun z=>Chk (P z)) z h k else Option.none
noncomputable def cD5 {P:Expr→Prop} (z:Expr) (k:∀ o vs p,Chk (P (.BoolOp o vs p))):Chk (P z):=if h:z.ctorIdx=0 then Expr.BoolOp.elim (motive_1:=fun z=>Chk (P z)) z h k else Option.none
noncomputable def dU5 {P:Expr→Prop} (z:Expr) (k:∀ t a b p,Chk (P (.IfExp t a b p))):Chk (P z):=if h:z.ctorIdx=5 then Expr.IfExp.elim (motive_1:=fun z=>Chk (P z)) z h k else Option.none
noncomputable def cD3 {P:Expr→Prop} (z:Expr) (k:∀ vs p,Chk (P (.List vs p))):Chk (P z):=if h:z.ctorIdx=24 then Expr.List.elim (motive_1:=fun z=>Chk (P z)) z h k else Option.none
noncomputable def cV8 {P:Expr→Prop} (z:Expr) (k:∀ vs n p,Chk (P (.Tuple vs n p))):Chk (P z):=if h:z.ctorIdx=25 then Expr.Tuple.elim (motive_1:=fun z=>Chk (P z)) z h k else Option.none
noncomputable def cD4 {P:Expr→Prop} (z:Expr) (k:∀ ks vs p,Chk (P (.Dict ks vs p))):Chk (P z):=if h:z.ctorIdx=6 then Expr.Dict.elim (motive_1:=fun z=>Chk (P z)) z h k else Option.none
noncomputable def cW0 {P:Expr→Prop} (z:Expr) (k:∀ a b c p,Chk (P (.Slice a b c p))):Chk (P z):=if h:z.ctorIdx=26 then Expr.Slice.elim (motive_1:=fun z=>Chk (P z)) z h k else Option.none
noncomputable def cV9 {P:Expr→Prop} (z:Expr) (k:∀ x p,Chk (P (.Starred x p))):Chk (P z):=if h:z.ctorIdx=22 then Expr.Starred.elim (motive_1:=fun z=>Chk (P z)) z h k else Option.none
noncomputable def bG9 {P:Stmt→Prop} (z:Stmt) (k:∀ ts v p,Chk (P (.Assign ts v p))):Chk (P z):=if h:z.ctorIdx=5 then Stmt.Assign.elim (motive_2:=fun z=>Chk (P z)) z h k else Option.none
noncomputable def dU4 {P:Stmt→Prop} (z:Stmt) (k:∀ x p,Chk (P (.Expr x p))):Chk (P z):=if h:z.ctorIdx=24 then Stmt.Expr.elim (motive_2:=fun z=>Chk (P z)) z h k else Option.none
noncomputable def eF5 {P:Const→Prop} (z:Const) (k:∀ x,Chk (P (.str x))):Chk (P z):=if h:z.ctorIdx=5 then Const.str.elim (motive:=fun z=>Chk (P z)) z h k else Option.none
noncomputable def eF6 {P:Const→Prop} (z:Const) (k:∀ i,Chk (P (.int i))):Chk (P z):=if h:z.ctorIdx=2 then Const.int.elim (motive:=fun z=>Chk (P z)) z h k else Option.none
noncomputable def dU6 {P:Const→Prop} (z:Const) (k:∀ b,Chk (P (.bool b))):Chk (P z):=if h:z.ctorIdx=1 then Const.bool.elim (motive:=fun z=>Chk (P z)) z h k else Option.none
noncomputable def bI5 {P:Expr→Prop} (z:Expr) (k:∀ x gs sc p,Chk (P (.GeneratorExp x gs sc p))):Chk (P z):=if h:z.ctorIdx=11 then Expr.GeneratorExp.elim (motive_1:=fun z=>Chk (P z)) z h k else Option.none
noncomputable def cK3 {P:Expr→Prop} (z:Expr) (k:∀ x gs sc p,Chk (P (.ListComp x gs sc p))):Chk (P z):=if h:z.ctorIdx=8 then Expr.ListComp.elim (motive_1:=fun z=>Chk (P z)) z h k else Option.none
noncomputable def bB4 {P:Stmt→Prop} (z:Stmt) (k:∀ t o v p,Chk (P (.AugAssign t o v p))):Chk (P z):=if h:z.ctorIdx=7 then Stmt.AugAssign.elim (motive_2:=fun z=>Chk (P z)) z h k else Option.none
noncomputable def eF2 {P:Stmt→Prop} (z:Stmt) (k:∀ t a b p,Chk (P (.If t a b p))):Chk (P z):=if h:z.ctorIdx=12 then Stmt.If.elim (motive_2:=fun z=>Chk (P z)) z h k else Option.none
noncomputable def bU5 {P:Stmt→Prop} (z:Stmt) (k:∀ t i b x p,Chk (P (.For t i b x p))):Chk (P z):=if h:z.ctorIdx=9 then Stmt.For.elim (motive_2:=fun z=>Chk (P z)) z h k else Option.none
noncomputable def dH6 {P:Stmt→Prop} (z:Stmt) (k:∀ t b x p,Chk (P (.While t b x p))):Chk (P z):=if h:z.ctorIdx=11 then Stmt.While.elim (motive_2:=fun z=>Chk (P z)) z h k else Option.none
noncomputable def cW1 {P:Stmt→Prop} (z:Stmt) (k:∀ v p,Chk (P (.Return v p))):Chk (P z):=if h:z.ctorIdx=3 then Stmt.Return.elim (motive_2:=fun z=>Chk (P z)) z h k else Option.none
noncomputable def dH7 {P:Stmt→Prop} (z:Stmt) (k:∀ p,Chk (P (.Break p))):Chk (P z):=if h:z.ctorIdx=26 then Stmt.Break.elim (motive_2:=fun z=>Chk (P z)) z h k else Option.none
noncomputable def bU4 {P:Expr→Prop} (z:Expr) (k:∀ x n p,Chk (P (.Constant (.str x) n p))):Chk (P z):=aP1 z fun c n p=>eF5 (P:=fun c=>P (.Constant c n p)) c fun x=>k x n p
noncomputable def cK4 {P:Expr→Prop} (z:Expr) (k:∀ x n p,Chk (P (.Constant (.int x) n p))):Chk (P z):=aP1 z fun c n p=>eF6 (P:=fun c=>P (.Constant c n p)) c fun x=>k x n p
noncomputable def aH1 {P:Expr→Prop} (z:Expr) (k:∀ y np as p,Chk (P (.Call (.Name y np) as [] p))):Chk (P z):=dK7 z fun f a w p=>aJ2 (P:=fun w=>P (.Call f a w p)) w (aD3 (P:=fun f=>P (.Call f a [] p)) f fun y np=>k y np a p)
noncomputable def aH6 {P:Expr→Prop} (z:Expr) (k:∀ o m ap as p,Chk (P (.Call (.Attribute o m ap) as [] p))):Chk (P z):=dK7 z fun f a w p=>aJ2 (P:=fun w=>P (.Call f a w p)) w (aM6 (P:=fun f=>P (.Call f a [] p)) f fun o m ap=>k o m ap a p)
noncomputable def aF8 {P:Stmt→Prop} (z:Stmt) (k:∀ x p v q,Chk (P (.Assign [.Name x p] v q))):Chk (P z):=bG9 z fun ts v q=>at1 (P:=fun ts=>P (.Assign ts v q)) ts fun t=>aD3 (P:=fun t=>P (.Assign [t] v q)) t fun x p=>k x p v q
noncomputable def bH0 {P:Stmt→Prop} (z:Stmt) (k:∀ o m ap as p q,Chk (P (.Expr (.Call (.Attribute o m ap) as [] p) q))):Chk (P z):=dU4 z fun x q=>aH6 (P:=fun x=>P (.Expr x q)) x fun o m ap a p=>k o m ap a p q
noncomputable def cW5 {P:Expr→Prop} (z:Expr) (k:∀ x t i fs n sc p,0=n→Chk (P (.ListComp x [⟨t,i,fs,n⟩] sc p))):Chk (P z):=cK3 z fun x gs sc p=>at1 (P:=fun gs=>P (.ListComp x gs sc p)) gs fun g=>match g with
 | ⟨t,i,fs,n⟩=>chP (0=n) fun h=>k x t i fs n sc p h
noncomputable def cD1 {P:Expr→Prop} (z:Expr) (k:∀ a p b q n r,Chk (P (.Tuple [.Name a p,.Name b q] n r))):Chk (P z):=cV8 z fun vs n r=>at2 (P:=fun vs=>P (.Tuple vs n r)) vs fun u v=>aD3 (P:=fun u=>P (.Tuple [u,v] n r)) u fun a p=>aD3 (P:=fun v=>P (.Tuple [.Name a p,v] n r)) v fun b q=>k a p b q n r
noncomputable def cW2 {P:Const→Prop} (z:Const) (k:Chk (P .none)):Chk (P z):=if h:z.ctorIdx=0 then Const.none.elim (motive:=fun z=>Chk (P z)) z h k else Option.none
end Mine
end
section
open PySem PySem.W PyProof.Rows PySem.Calls PySem.Spec
set_option autoImplicit false
namespace Mine
section
variable {β:Type} {T:β→Prop} {d e:D}
theorem Al.str {f:Str→Option β} (h:∀ x,d=.str x→Al (f x) T):Al (match d with | .str x=>f x | _=>Option.none) T:=by
 cases d with
 | str x=>exact h x rfl
 | _=>exact Al.none
theorem Al.int {f:Int→Option β} (h:∀ x,d=.int x→Al (f x) T):Al (match d with | .int x=>f x | _=>Option.none) T:=by
 cases d with
 | int x=>exact h x rfl
 | _=>exact Al.none
theorem Al.lst {f:List D→Option β} (h:∀ x,d=.lst x→Al (f x) T):Al (match d with | .lst x=>f x | _=>Option.none) T:=by
 cases d with
 | lst x=>exact h x rfl
 | _=>exact Al.none
theorem Al.ent {f:List D→Option β} (h:∀ x,d=.ent x→Al (f x) T):Al (match d with | .ent x=>f x | _=>Option.none) T:=by
 cases d with
 | ent x=>exact h x rfl
 | _=>exact Al.none
theorem Al.dct {f:List (Key × Int)→Option β} (h:∀ x,d=.dct x→Al (f x) T):Al (match d with | .dct x=>f x | _=>Option.none) T:=by
 cases d with
 | dct x=>exact h x rfl
 | _=>exact Al.none
theorem Al.bytes {f:Array UInt8→Option β} (h:∀ x,d=.bytes x→Al (f x) T):Al (match d with | .bytes x=>f x | _=>Option.none) T:=by
 cases d with
 | bytes x=>exact h x rfl
 | _=>exact Al.none
theorem Al.lstBarr {f:List D→Option β} {g:Array UInt8→Option β} (h:∀ x,d=.lst x→Al (f x) T) (h':∀ x,d=.barr x→Al (g x) T):Al (match d with | .lst x=>f x | .barr b=>g b | _=>Option.none) T:=by
 cases d with
 | lst x=>exact h x rfl
 | barr x=>exact h' x rfl
 | _=>exact Al.none
theorem Al.ints {f:Int→Int→Option β} (h:∀ x y,d=.int x→e=.int y→Al (f x y) T):Al (match d,e with | .int x,.int y=>f x y | _,_=>Option.none) T:=by
 cases d with
 | int x =>
  cases e with
  | int y=>exact h x y rfl rfl
  | _=>exact Al.none
 | _=>exact Al.none
end
end Mine
end
section
open PySem PySem.W PyProof.Rows PySem.Calls PySem.Spec
namespace Mine
noncomputable def bB6 (sc:Scope) (x:Str):Bool:=match sc.names.lookup x with
 | some .local | some .cell | some .free=>true
 | _=>false
noncomputable def aB6 (ns:List Str) (sc:Scope) (i:Nat) (x:Str):Bool :=
 decide (ns[i]?=some x)&&bB6 sc x&&!(x == ("__debug__":Str))&&!(x == ("__classdict__":Str))
noncomputable def aC4 (sc:Scope) (x y:Str):Bool:=decide (x=y)&&decide (sc.names.lookup x=some .globalImplicit)&&!(x == ("__debug__":Str))
noncomputable def aA8:Expr→Bool
 | .Starred ..=>false
 | _=>true
noncomputable def bA7:Expr→Bool
 | .Name ..=>true
 | _=>false
noncomputable def aE2 (sc outer:Scope):Scope :=
 { sc with names:=sc.names.map fun (n,k)=>if (k == .free&&outer.kind == .function&&outer.names.lookup n == some .cell) then (n,.cell) else (n,k) }
noncomputable def aQ3 (sc:Scope) (x:Str):Bool:=match sc.names.lookup x with
 | some .cell | some .free=>true
 | _=>false
noncomputable def aY3 (sc outer:Scope) (targets:List Str):Bool :=
 decide (sc.kind=.function)&&aH2 (sc.names.map (·.1))&&sc.names.all (fun p =>
  (decide (p.2=.free)&&aQ3 outer p.1) || (decide (p.2=.globalImplicit)) || ((decide (p.2=.local) || decide (p.2=.cell))&&(targets.contains p.1 || p.1 == (".0":Str)))) &&
 targets.all (fun x=>decide (sc.names.lookup x=some .local) || decide (sc.names.lookup x=some .cell))
end Mine
end
section
open PySem PySem.W PyProof.Rows PySem.Calls PySem.Spec
set_option autoImplicit false
namespace Mine
structure EnvOk (env:Env):Prop where
 kind:env.scope.kind=.function
 glob:env.globals=mainGlobals
 blt:env.builtins=builtinsNs
 inj:∀ x y c,env.cells.lookup x=some c→env.cells.lookup y=some c→x=y
 off:∀ x c,env.cells.lookup x=some c→c≠env.locals
 has:∀ x,env.kindOf x=some .cell∨env.kindOf x=some .free→(env.cells.lookup x).isSome=true
noncomputable def HasVar (env:Env) (h:Heap) (x:Str) (v:Value):Prop :=
 (env.kindOf x=some .local∧∃ m,h.Ns env.locals m∧m x=some v) ∨
 ((env.kindOf x=some .cell∨env.kindOf x=some .free)∧∃ c,env.cells.lookup x=some c∧h.IsCell c (some v))
structure FrameIs (Mu:Addr→Bool) (env:Env) (h:Heap):Prop where
 ns:∃ m,h.Ns env.locals m
 cell:∀ x c,env.cells.lookup x=some c→∃ v,h.IsCell c v
 muL:Mu env.locals=true
 muC:∀ x c,env.cells.lookup x=some c→Mu c=true
theorem Ns.ext {C:Cfg} {Mu:Addr→Bool} {h h':Heap} (M:MuOk C Mu h) (e:Ext C.PT h h') {a:Addr} {m:Str→Option Value} (q:Mu a=true) (n:h.Ns a m):h'.Ns a m :=
 n.at' fun o w=>e a o w (.inr (M a q).1)
theorem IsCell.ext {C:Cfg} {Mu:Addr→Bool} {h h':Heap} (M:MuOk C Mu h) (e:Ext C.PT h h') {a:Addr} {m:Option Value} (q:Mu a=true) (n:h.IsCell a m):h'.IsCell a m :=
 let ⟨o,w,d⟩:=n;⟨o,e a o w (.inr (M a q).1),d⟩
theorem FrameIs.ext {C:Cfg} {Mu:Addr→Bool} {env:Env} {h h':Heap} (M:MuOk C Mu h) (F:FrameIs Mu env h) (e:Ext C.PT h h'):FrameIs Mu env h' :=
 ⟨let ⟨m,n⟩:=F.ns;⟨m,Mine.Ns.ext M e F.muL n⟩,fun x c q=>let ⟨v,n⟩:=F.cell x c q;⟨v,IsCell.ext M e (F.muC x c q) n⟩,F.muL,F.muC⟩
theorem HasVar.ext {C:Cfg} {Mu:Addr→Bool} {env:Env} {h h':Heap} (M:MuOk C Mu h) (F:FrameIs Mu env h) (e:Ext C.PT h h') {x:Str} {v:Value} (H:HasVar env h x v):HasVar env h' x v:=by
 rcases H with ⟨k,m,n,q⟩ | ⟨k,c,hc,n⟩
 ·exact .inl ⟨k,m,Mine.Ns.ext M e F.muL n,q⟩
 ·exact .inr ⟨k,c,hc,IsCell.ext M e (F.muC x c hc) n⟩
inductive OwnIs (C:Cfg) (h:Heap) (Mu:Addr→Bool):Value→Addr→D→Prop
 | lst {m:Addr} {vs:List Value} {n:Nat} {ds:List D}:h.get? m=some (aB2 vs n)→RdL C (Fz h Mu) vs ds→OwnIs C h Mu (.ref m) m (.lst ds)
 | dct {m:Addr} {kvs:List (Key × Int)}:Rd C (Fz h noMu) (.ref m) (.dct kvs)→OwnIs C h Mu (.ref m) m (.dct kvs)
 | barr {m:Addr} {b:Array UInt8}:h.get? m=some (aJ5 b)→OwnIs C h Mu (.ref m) m (.barr b)
 | ent {a dx m:Addr} {es:List DictEntry} {n:Nat} {vs:List Value} {k:Nat} {ds:List D} :
   Fz h Mu a=some (instObj C.EC dx)→Fz h Mu dx=some (dictOf es n)→getL "useragents" es=some (some (.ref m))→getL "applies_to" es=some Option.none→h.get? m=some (aB2 vs k)→RdL C (Fz h Mu) vs ds→OwnIs C h Mu (.ref a) m (.ent ds)
noncomputable def eG3 (C:Cfg) (h:Heap) (Mu:Addr→Bool) (v:Value) (m:Addr):D→Prop
 | .lst ds=>v=.ref m∧∃ vs n,h.get? m=some (aB2 vs n)∧RdL C (Fz h Mu) vs ds
 | .ent ds=>∃ a dx es n vs k,v=.ref a∧Fz h Mu a=some (instObj C.EC dx)∧Fz h Mu dx=some (dictOf es n)∧getL "useragents" es=some (some (.ref m))∧getL "applies_to" es=some Option.none∧h.get? m=some (aB2 vs k)∧RdL C (Fz h Mu) vs ds
 | _=>True
theorem OwnIs.inv {C:Cfg} {h:Heap} {Mu:Addr→Bool} {v:Value} {m:Addr} {d:D} (o:OwnIs C h Mu v m d):eG3 C h Mu v m d:=by
 cases o with
 | lst q r=>exact ⟨rfl,_,_,q,r⟩
 | ent h1 h2 h3 h5 h4 r=>exact ⟨_,_,_,_,_,_,rfl,h1,h2,h3,h5,h4,r⟩
 | _=>trivial
theorem bX1 {Mu:Addr→Bool}:∀ a,noMu a=true→Mu a=true:=fun _ e=>by exact noB e
theorem Rd.whole {C:Cfg} {h:Heap} {Mu:Addr→Bool} {v:Value} {d:D} (r:Rd C (Fz h Mu) v d):Rd C (Fz h noMu) v d:=r.mono (.mu bX1)
theorem RdL.whole {C:Cfg} {h:Heap} {Mu:Addr→Bool} {vs:List Value} {ds:List D} (r:RdL C (Fz h Mu) vs ds):RdL C (Fz h noMu) vs ds:=r.mono (.mu bX1)
theorem OwnIs.rd {C:Cfg} {h:Heap} {Mu:Addr→Bool} {v:Value} {m:Addr} {d:D} (o:OwnIs C h Mu v m d):Rd C (Fz h noMu) v d:=by
 cases o with
 | lst e r=>exact .lst (by rw [aO2];exact e) r.whole
 | dct r=>exact r
 | barr e=>exact .barr (by rw [aO2];exact e)
 | ent h1 h2 h3 h5 h4 r =>
  have f:∀ {a o},Fz h Mu a=some o→o.cls≠.none→Fz h noMu a=some o:=fun e c=>(VLe.mu bX1) _ _ e c
  exact .ent (f h1 Value.noConfusion) (f h2 Value.noConfusion) h3 h5 (by rw [aO2];exact h4) r.whole
theorem OwnIs.ext {C:Cfg} {h h':Heap} {Mu:Addr→Bool} {v:Value} {m:Addr} {d:D} (o:OwnIs C h Mu v m d) (e:Ext C.PT h h'):OwnIs C h' Mu v m d:=by
 cases o with
 | lst q r=>exact .lst (e _ _ q (.inl Value.noConfusion)) (r.mono (.ext e))
 | dct r=>exact .dct (r.mono (.ext e))
 | barr q=>exact .barr (e _ _ q (.inl Value.noConfusion))
 | ent h1 h2 h3 h5 h4 r=>exact .ent (VLe.ext e _ _ h1 Value.noConfusion) (VLe.ext e _ _ h2 Value.noConfusion) h3 h5 (e _ _ h4 (.inl Value.noConfusion)) (r.mono (.ext e))
noncomputable def VarIs (C:Cfg) (env:Env) (h:Heap) (Mu:Addr→Bool) (ad:Nat→Addr) (i:Nat) (x:Str):LV→Prop
 | .dat d=>∃ v,HasVar env h x v∧Rd C (Fz h Mu) v d
 | .own d=>∃ v,HasVar env h x v∧OwnIs C h Mu v (ad i) d
theorem VarIs.ext {C:Cfg} {env:Env} {h h':Heap} {Mu:Addr→Bool} {ad:Nat→Addr} {i:Nat} {x:Str} {lv:LV} (M:MuOk C Mu h) (F:FrameIs Mu env h) (e:Ext C.PT h h') (V:VarIs C env h Mu ad i x lv):VarIs C env h' Mu ad i x lv:=by
 cases lv with
 | dat d=>obtain ⟨v,a,b⟩:=V;exact ⟨v,a.ext M F e,b.mono (.ext e)⟩
 | own d=>obtain ⟨v,a,b⟩:=V;exact ⟨v,a.ext M F e,b.ext e⟩
structure RoomL (lev:Nat) (A:Around):Prop where
 handled:A.handled=none
 depth:A.depth+10*(lev+1) < recursionLimit
 units:A.units+300+100*lev < cLine
theorem RoomL.room {lev:Nat} {A:Around} (R:RoomL lev A):Room A:=⟨R.handled,by have:=R.units;exact eR7 this rfl⟩
noncomputable def CallOk (C:Cfg) (lev:Nat) (f:Addr) (g:List D→Option D):Prop :=
 ∀ (A:Around) (Mu:Addr→Bool) (s:Shared) (vs:List Value) (ds:List D) (d:D),RoomL lev A→SOk C s→0 < s.toks→MuOk C Mu s.heap→RdL C (Fz s.heap Mu) vs ds→g ds=some d →
  ∀ R:Result→Shared→Prop,(∀ v s',Go C s s'→Rd C (Fz s'.heap Mu) v d→R (.ok (.ret v)) s')→codeAny (model C.prog C.w) A (.call (.ref f) ⟨vs,[]⟩) R s
noncomputable abbrev aL7:List Str:=["len","bytes","bytearray","list","reversed","isinstance","tuple","range","filter","int","ValueError"]
structure FnsOk (C:Cfg) (lev:Nat) (Γ:List Fn):Prop where
 fn:∀ (k:Nat) (f:Fn),Γ[k]?=some f→∃ a,(f.name≠("applies_to":Str)→C.mg f.name=some (.ref a)) ∧
  (f.name=("applies_to":Str)→findIn C.K (.ref C.EC) "applies_to"=some (some (.ref a))∧isFn C.K (.ref a)=true∧plainGet C.K C.EC "applies_to"=true)∧keepIn C.K (.ref a)=true∧CallOk C lev a f.g
 none:∀ x∈aL7,C.mg x=none
structure Kit (C:Cfg):Prop where
 tup:kitOne C.K (.type "int") (.type "tuple")=some false
 entN:C.mg "Entry"=some (.ref C.EC)∧keepIn C.K (.ref C.EC)=true
 ent:∀ (A:Around) (s:Shared),RoomL 0 A→SOk C s→0 < s.toks→∀ (Q E:Value→Shared→Prop),
  (∀ a dx m es n k s',Go C s s'→s.toks≤s'.toks→s.heap.get? a=none→s.heap.get? dx=none→s.heap.get? m=none→m≠a→m≠dx→s'.heap.get? a=some (instObj C.EC dx)→s'.heap.get? dx=some (dictOf es n) →
   getL "useragents" es=some (some (.ref m))→getL "applies_to" es=some Option.none→s'.heap.get? m=some (aB2 [] k)→Q (.ref a) s')→wpAny (model C.prog C.w) A (call (.ref C.EC) []) Q E s
structure Cx (C:Cfg) (lev:Nat) (Γ:List Fn) (ns:List Str) (A:Around) (env:Env) (ρ:Ro) (Mu:Addr→Bool) (s:Shared):Prop where
 fns:FnsOk C lev Γ
 kit:Kit C
 room:RoomL lev A
 ok:SOk C s
 tok:0 < s.toks
 envOk:EnvOk env
 mu:MuOk C Mu s.heap
 frame:FrameIs Mu env s.heap
 nodup:ns.Nodup∧(".0":Str)∉ns
 vars:∃ ad,∀ i x lv,ns[i]?=some x→ρ.lookup i=some lv→bB6 env.scope x=true→VarIs C env s.heap Mu ad i x lv
section
variable {C:Cfg} {lev:Nat} {Γ:List Fn} {ns:List Str} {A:Around} {env:Env} {ρ:Ro} {Mu:Addr→Bool} {s s':Shared}
theorem Cx.go (X:Cx C lev Γ ns A env ρ Mu s) (g:Go C s s') (t:s.toks≤s'.toks):Cx C lev Γ ns A env ρ Mu s' :=
 ⟨X.fns,X.kit,X.room,X.ok.go g,aM7 X.tok t,X.envOk,X.mu.ext g.ext,X.frame.ext X.mu g.ext,X.nodup,let ⟨ad,v⟩:=X.vars;⟨ad,fun i x lv a b c=>(v i x lv a b c).ext X.mu X.frame g.ext⟩⟩
noncomputable def bB9 (tr:Bool) (Mu:Addr→Bool):Addr→Bool:=fun a=>!tr&&Mu a
theorem aR7 (Mu:Addr→Bool):bB9 true Mu=noMu:=by funext a;rfl
theorem aH7 (Mu:Addr→Bool):bB9 false Mu=Mu:=by funext a;rfl
theorem aM0 {C:Cfg} {tr:Bool} {Mu:Addr→Bool} {h:Heap} (M:MuOk C Mu h):MuOk C (bB9 tr Mu) h:=by
 cases tr
 ·rw [aH7];exact M
 ·rw [aR7];exact .noMu C h
theorem PE.toks {t:Sem Value} {d:D} (h:PE C A Mu t s d) (Q:Value→Shared→Prop) (E:Value→Shared→Prop) (k:∀ v s',Go C s s'→s.toks≤s'.toks→Rd C (Fz s'.heap Mu) v d→Q v s') :
  wpAny (model C.prog C.w) A t Q E s:=wpAny_with_toks (Nat.le_refl _) (h _ _ fun v s' g r ht=>k v s' g ht r)
theorem PE.pure {v:Value} {d:D} (r:Rd C (Fz s.heap Mu) v d):PE C A Mu (pure v) s d:=fun _ _ k=>wpAny_pure (k v s (.refl s) r)
theorem bC4 (X:Cx C lev Γ ns A env ρ Mu s) {x:Str} {v:Value} (H:HasVar env s.heap x v) {Q:Value→Shared→Prop} {E:Value→Shared→Prop} (hn:(x == ("__classdict__":Str))=false) (h:Q v s) :
  wpAny (model C.prog C.w) A (loadName env x) Q E s:=by
 refine hid fun Gz zz=>?_
 rcases H with ⟨k,m,n,q⟩ | ⟨k | k,c,hc,hv⟩
 ·refine zz ?_;clear zz Gz
  exact wpAny_loadName_local X.envOk.kind k n q h
 ·refine zz ?_;clear zz Gz
  exact wpAny_loadName_cell X.envOk.kind k hc hv h
 ·refine zz ?_;clear zz Gz
  exact wpAny_loadName_free X.envOk.kind k hc hv h hn
theorem aM4 (X:Cx C lev Γ ns A env ρ Mu s) {x:Str} {pos:Pos} {v:Value} (hk:env.scope.names.lookup x=some .globalImplicit) (hd:(x == ("__debug__":Str))=false) (hg:C.mg x=some v)
  {Q:Value→Shared→Prop} {E:Value→Shared→Prop} (h:Q v s):wpAny (model C.prog C.w) A (eval (.Name x pos) env) Q E s :=
 Name_function_global X.envOk.kind hk (loadGlobal_global (env:=env) (X.envOk.glob ▸ X.ok.top.g) hg h) hd
end
end Mine
end
section
open PySem PySem.W PyProof.Rows PySem.Calls PySem.Spec
set_option autoImplicit false
namespace Mine
section
variable {C:Cfg} {lev:Nat} {Γ:List Fn} {ns:List Str} {A:Around} {env:Env} {ρ:Ro} {Mu Mv:Addr→Bool} {s s':Shared}
theorem PE.then (X:Cx C lev Γ ns A env ρ Mv s) {t:Sem Value} {d:D} (h:PE C A Mu t s d) {Q:Value→Shared→Prop} {E:Value→Shared→Prop}
  (k:∀ v s',Go C s s'→Cx C lev Γ ns A env ρ Mv s'→Rd C (Fz s'.heap Mu) v d→Q v s'):wpAny (model C.prog C.w) A t Q E s :=
 h.toks _ _ fun v s' g t r=>k v s' g (X.go g t) r
theorem Rd.go {v:Value} {d:D} (r:Rd C (Fz s.heap Mu) v d) (g:Go C s s'):Rd C (Fz s'.heap Mu) v d:=r.mono (.ext g.ext)
theorem RdL.go {v:List Value} {d:List D} (r:RdL C (Fz s.heap Mu) v d) (g:Go C s s'):RdL C (Fz s'.heap Mu) v d:=r.mono (.ext g.ext)
theorem Rd.tr {v:Value} {d:D} (r:Rd C (Fz s.heap Mu) v d) {tr:Bool}:Rd C (Fz s.heap (bB9 tr Mu)) v d:=by
 cases tr
 ·rw [aH7];exact r
 ·rw [aR7];exact r.whole
theorem Rd.imm {v:Value} {d:D} {G G':aU7} (r:Rd C G v d) (h:dE1 d=true):Rd C G' v d:=by
 cases r<;>first | (cases h;done) | constructor
theorem eB5 (x:Str):((x.length:Int) != 0)=(!x.cps.isEmpty):=by
 unfold Str.length
 by_cases h:x.cps.size=0
 ·simp [h,Array.isEmpty]
 ·simp [Array.isEmpty,h]
theorem cM9 {d:D} {v:Value} (r:Rd C (Fz s.heap Mu) v d):Al (bD1 d) fun b=>∀ {Q:Bool→Shared→Prop} {E:Value→Shared→Prop},(∀ s',Go C s s'→Q b s')→wpAny (model C.prog C.w) A (truthy v) Q E s:=by
 cases r with
 | bool b=>exact Al.some fun k=>wpAny_truthy_bool (k _ (.refl _))
 | str x t=>exact Al.ite fun hz=>Al.some fun k=>P.truthy_str (dE3 (cX4 hz rfl)) (eB5 x ▸ k _ .tok)
 | lst e r =>
  refine Al.ite fun hz=>Al.some fun k=>wpAny_truthy_list (aI6 (VLe.heap _ _ e aV8)) (by have:=r.length;simp;exact cX4 (bQ8 this hz) rfl) ?_
  cases r with
  | nil=>exact k _ .tok
  | cons _ _=>exact k _ .tok
 | _=>exact Al.none
theorem bP9 {d:D} {b:Bool} {v:Value} (h:bD1 d=some b) (r:Rd C (Fz s.heap Mu) v d) {Q:Bool→Shared→Prop} {E:Value→Shared→Prop}
  (k:∀ s',Go C s s'→Q b s'):wpAny (model C.prog C.w) A (truthy v) Q E s:=cM9 r b h k
theorem bH4 (slice:Expr) (o i:Value):∃ ops,subscripted slice false o i=operate ops (getItem o i):=by
 cases slice with
 | Slice _ _ st=>cases st<;>exact ⟨_,rfl⟩
 | _=>exact ⟨_,rfl⟩
theorem aV5 {value slice:Expr} {o i:Value} {T id:String} {Q:Value→Shared→Prop} {E:Value→Shared→Prop} (hT:s.TypeIs o T)
  (hl:typeLookup (.type T) "__getitem__"=pure (some (.builtin id))) (hg:wpAny (model C.prog C.w) A (getItem o i) Q E s):wpAny (model C.prog C.w) A (subscriptTail value slice o i) Q E s :=
 let ⟨_,h⟩:=bH4 slice o i
 tail_any hT hl hg h
theorem IntVals.get {ps:List (Key × Value)} {kvs:List (Key × Int)} (r:IntVals ps kvs) {k:Key} {i:Int}:dictGet? kvs k=some i→∃ t,valueAt ps k=some (.int i t):=by
 induction r with
 | nil=>exact fun h=>nos h
 | cons r ih =>
  rename_i k' i' t ps kvs
  intro h
  dsimp only [dictGet?] at h
  dsimp only [valueAt]
  rw [List.find?_cons] at h ⊢
  by_cases e:k'=k
  ·simp only [e,decide_true] at h ⊢
   obtain rfl:=Option.some.inj h;exact ⟨t,rfl⟩
  ·simp only [e,decide_false] at h ⊢
   exact ih h
theorem aZ8 {d:D} {key:Key} {v:Value} {G:aU7} (h:dD5 d=some key) (r:Rd C G v d):(aC0 C.prog C.w).is key v=true:=by
 refine (?_:Al (dD5 d) fun key=>(aC0 C.prog C.w).is key v=true) key h
 cases r with
 | int i t=>exact Al.some (show Value.isInt i (.int i t)=true by simp [Value.isInt])
 | str x t=>exact Al.some (show Value.isStrOf x (.str x t)=true by simp [Value.isStrOf])
 | _=>exact Al.none
theorem dU0 {b:Array UInt8} {n:Nat} {c:UInt8} (hc:b[n]?=some c):((b.toList.getD n 0).toNat:Int)=(c.toNat:Int):=by
 have:b.toList[n]?=some c:=by simpa using hc
 rw [List.getD_eq_getElem?_getD,this];rfl
theorem eC1 {value slice:Expr} {a b:D} {u v:Value} (ru:Rd C (Fz s.heap Mu) u a) (rv:Rd C (Fz s.heap Mu) v b):Al (bJ8 a b) (PE C A Mu (subscriptTail value slice u v) s):=by
 cases ru with
 | lst e r=>cases rv with
  | int i t =>
   refine Al.ite fun hz d hd Q E k=>?_
   have e:=VLe.heap _ _ e aV8
   obtain ⟨x,hx,rx⟩:=r.get hd
   exact aV5 ⟨_,e,rfl⟩ slot_list_getitem.lookup (wpAny_getItem_list (aI6 e) hz.1 (Int.lt_trans hz.2 (by decide)) (by simpa using hx) (k _ _ (.refl _) rx))
  | _=>exact Al.none
 | str x t=>cases rv with
  | int i t =>
   refine Al.ite fun hz=>Al.map fun c hc Q E k=>aV5 (typeIs_str s x _) F.slot_str_getitem.lookup (P.getItem_str (c:=c) ?_ hc (k _ _ .tok (.str _ _)))
   exact Bool.or_eq_false_iff.mpr ⟨decide_eq_false (by lia),decide_eq_false (dE3 (dR8 hz.2 (by decide)))⟩
  | _=>exact Al.none
 | bytes b t=>cases rv with
  | int i t =>
   refine Al.ite fun hz=>Al.map fun c hc Q E k=>?_
   have hlt:=(Array.getElem?_eq_some_iff.mp hc).1
   exact aV5 (T:="bytes") rfl (by rfl) (getItem_bytes (l:=b.toList) (by simp;exact bL8 (aM7 hz.2.2 (cl rfl))) hz.1 (by simp;exact eX5 hlt) (k _ _ .tok (dU0 hc ▸ .int _ _)))
  | _=>exact Al.none
 | dct e r iy zy =>
  refine Al.bind fun key hk=>Al.map fun i hi Q E k=>?_
  have dy:=Heap.dictOf_iff.mpr ⟨_,VLe.heap _ _ e (IsDictOf.cls r),r⟩
  obtain ⟨t,ht⟩:=iy.get hi
  exact aV5 dy.mapOf.typeIs slot_dict_getitem.lookup (wpAny_getItem_of (aZ8 hk rv) dy.mapOf ht (k _ _ .tok (.int _ _)))
 | _=>exact Al.none
theorem dK0 {value slice:Expr} {a b d:D} {u v:Value} (h:bJ8 a b=some d) (ru:Rd C (Fz s.heap Mu) u a) (rv:Rd C (Fz s.heap Mu) v b) :
  PE C A Mu (subscriptTail value slice u v) s d:=eC1 ru rv d h
end
end Mine
end
section
open PySem PySem.W PyProof.Rows PySem.Calls PySem.Spec
set_option autoImplicit false
namespace Mine
section
variable {C:Cfg} {lev:Nat} {Γ:List Fn} {ns:List Str} {A:Around} {env:Env} {ρ:Ro} {Mu Mv:Addr→Bool} {s s':Shared}
theorem aA5 {x:Expr} {xs:List Expr} {pos:Pos} (h:aA8 x=true):backTo pos (starEach (x::xs) env)=(false,eval x env)::backTo pos (starEach xs env):=by
 cases x<;>first | rfl | (cases h;done)
theorem aD9 {pos:Pos}:backTo pos (starEach [] env)=[]:=rfl
noncomputable def aP3 (o:Expr):Prop:=∀ (env:Env) (x:Value),foldedSetIterable o env x=pure x
noncomputable def aJ6 (o:Expr):Prop:=∀ (name:Str) (env:Env) (w:Sem Value),attributeBase o name env w=w
theorem aQ6 {o:Expr} {name:Str} {w:Sem Value} (h:aJ6 o):attributeBase o name env w=w:=h _ _ _
theorem aL4 (X:Cx C lev Γ ns A env ρ Mv s) {x:Str} {pos:Pos} {v:Value} (hk:env.scope.names.lookup x=some .globalImplicit) (hd:(x == ("__debug__":Str))=false)
  (hx:x∈aL7) (hv:bootBuiltins x=some v) (hn:x≠"__name__")
  {Q:Value→Shared→Prop} {E:Value→Shared→Prop} (h:Q v s):wpAny (model C.prog C.w) A (eval (.Name x pos) env) Q E s:=by
 obtain ⟨mb,hb,hmb⟩:=X.ok.top.b
 exact Name_function_global X.envOk.kind hk (loadGlobal_builtin (env:=env) (X.envOk.glob ▸ X.ok.top.g) (X.fns.none x hx) (X.envOk.blt ▸ hb) ((hmb x hn).trans hv) h) hd
theorem cU9 {np pos:Pos} {y:Str} {id:String} {x:Expr} {d:D} (X:Cx C lev Γ ns A env ρ Mv s) (hs:aA8 x=true) (hg:aC4 env.scope y (Str.ofString id)=true)
  (hx:Str.ofString id∈aL7) (hv:bootBuiltins (Str.ofString id)=some (.builtin id)) (hn:Str.ofString id≠"__name__")
  (hp:PE C A Mu (eval x env) s d) {Q:Value→Shared→Prop} {E:Value→Shared→Prop}
  (k:∀ v s',Go C s s'→Cx C lev Γ ns A env ρ Mv s'→Rd C (Fz s'.heap Mu) v d→wpAny (model C.prog C.w) A (call (.builtin id) [v]) Q E s') :
  wpAny (model C.prog C.w) A (eval (.Call (.Name y np) [x] [] pos) env) Q E s:=by
 simp only [aC4,Bool.and_eq_true,decide_eq_true_eq,Bool.not_eq_true'] at hg
 obtain ⟨⟨rfl,hk⟩,hd⟩:=hg
 refine wpAny_Call_NameR (aL4 X hk hd hx hv hn ?_)
 rw [aA5 hs,aD9]
 exact callWith_builtin rfl (evalArgs_plain (spliced_cons (hp.then X fun v s' g X' r=>spliced_nil (k v s' g X' r))))
theorem aP0 {np pos:Pos} {y:Str} {id:String} {x:Expr} (X:Cx C lev Γ ns A env ρ Mv s) (hs:aA8 x=true) (hg:aC4 env.scope y (Str.ofString id)=true)
  (hx:Str.ofString id∈aL7) (hv:bootBuiltins (Str.ofString id)=some (.type id)) (hn:Str.ofString id≠"__name__")
  {Q:Value→Shared→Prop} {E:Value→Shared→Prop}
  (k:wpAny (model C.prog C.w) A (eval x env) (fun v s'=>wpAny (model C.prog C.w) A (call (.type id) [v]) Q E s') E s) :
  wpAny (model C.prog C.w) A (eval (.Call (.Name y np) [x] [] pos) env) Q E s:=by
 simp only [aC4,Bool.and_eq_true,decide_eq_true_eq,Bool.not_eq_true'] at hg
 refine hid fun Gz zz=>?_
 obtain ⟨⟨rfl,hk⟩,hd⟩:=hg
 refine zz ?_;clear zz Gz
 refine wpAny_Call_NameR (aL4 X hk hd hx hv hn ?_)
 rw [aA5 hs,aD9]
 exact PySem.callWith_type rfl (evalArgs_plain (spliced_cons (wpAny_mono k (fun v s' h=>spliced_nil h) fun _ _ e=>e)))
theorem eB4 {d r:D} {v:Value} (h:eB6 d=some r) (rv:Rd C (Fz s.heap Mv) v d):PE C A Mu (call (.builtin "len") [v]) s r:=by
 refine (?_:Al (eB6 d) (PE C A Mu (call (.builtin "len") [v]) s)) r h
 cases rv with
 | lst e r =>
  refine Al.ite fun hz=>Al.some fun Q E k=>?_
  have hl:=r.length
  refine PyProof.Rows.len_list (aI6 (VLe.heap _ _ e aV8)) (by simp;exact cX4 (bQ8 hl hz) rfl) ?_
  rw [show ((List.toArray _).size:Int)=_ from congrArg Nat.cast (List.size_toArray),hl]
  exact k _ _ .tok (.int _ _)
 | str x t=>exact Al.ite fun hz=>Al.some fun Q E k=>P.len_str (dE3 (cX4 hz rfl)) (k _ _ .tok (.int _ _))
 | bytes b t=>exact Al.ite fun hz=>Al.some fun Q E k=>PySem.W.len_bytes (aA9 hz (cl rfl)) (k _ _ .tok (.int _ _))
 | _=>exact Al.none
theorem bQ1 {o:Expr} {apos pos:Pos} {name:Str} {id:String} {x:Str} (X:Cx C lev Γ ns A env ρ Mv s) (hsl:Slot "str" name id) (ht:typeOf (.builtin id)=pure (.type "method_descriptor"))
  (hp:(apos.endLine == pos.line)=true) (ho:aJ6 o) (h:PE C A Mu (eval o env) s (.str x)) {Q:Value→Shared→Prop} {E:Value→Shared→Prop}
  (k:∀ t s',Go C s s'→wpAny (model C.prog C.w) A (call (.builtin id) [.str x t]) Q E s') :
  wpAny (model C.prog C.w) A (eval (.Call (.Attribute o name apos) [] [] pos) env) Q E s:=by
 refine wpAny_Call_method0_late (aQ6 ho) hp (h.then X fun v s' g X' r=>?_)
 obtain ⟨_,rfl⟩:=r.inv
 refine ⟨"str",id,PySem.F.plainAttrs_str,hsl,ht,typeIs_str _ _ _,(fun _=>Value.noConfusion),?_⟩
 exact callWith_method0 (env:=env) (k _ s' g)
theorem cN5 {o e:Expr} {apos pos:Pos} {name:Str} {id:String} {x:Str} {d:D} (X:Cx C lev Γ ns A env ρ Mv s) (hsl:Slot "str" name id) (ht:typeOf (.builtin id)=pure (.type "method_descriptor"))
  (hp:(apos.endLine == pos.line)=true) (ho:aJ6 o) (hs:aA8 e=true) (h:PE C A Mu (eval o env) s (.str x)) (he:∀ s',Go C s s'→Cx C lev Γ ns A env ρ Mv s'→PE C A Mu (eval e env) s' d)
  {Q:Value→Shared→Prop} {E:Value→Shared→Prop}
  (k:∀ t v s',Go C s s'→Cx C lev Γ ns A env ρ Mv s'→Rd C (Fz s'.heap Mu) v d→wpAny (model C.prog C.w) A (call (.builtin id) [.str x t,v]) Q E s') :
  wpAny (model C.prog C.w) A (eval (.Call (.Attribute o name apos) [e] [] pos) env) Q E s:=by
 refine wpAny_Call_method1_late (aQ6 ho) hp (by rw [aA5 hs];rfl) (h.then X fun v s' g X' r=>?_)
 obtain ⟨_,rfl⟩:=r.inv
 refine ⟨"str",id,PySem.F.plainAttrs_str,hsl,ht,typeIs_str _ _ _,(fun _=>Value.noConfusion),?_⟩
 refine callWith_builtin rfl (evalArgs_plain (spliced_cons ((he s' g X').then X' fun v s'' g' X'' r=>spliced_nil ?_)))
 exact k _ _ s'' (g.trans g') X'' r
theorem bV8 {o:Expr} {apos pos:Pos} {name:Str} {id:String} {x y z:Str} {dD eR:Nat} {dE cA:Pos} (X:Cx C lev Γ ns A env ρ Mv s) (hsl:Slot "str" name id) (ht:typeOf (.builtin id)=pure (.type "method_descriptor"))
  (hp:(apos.endLine == pos.line)=true) (ho:aJ6 o) (h:PE C A Mu (eval o env) s (.str x))
  {Q:Value→Shared→Prop} {E:Value→Shared→Prop}
  (k:∀ t s',Go C s s'→0 < s'.toks→wpAny (model C.prog C.w) A (call (.builtin id) [.str x t,.str y s'.toks,.str z (s'.toks+1)]) Q E { s' with toks:=s'.toks+2 }) :
  wpAny (model C.prog C.w) A (eval (.Call (.Attribute o name apos) [.Constant (.str y) dD dE,.Constant (.str z) eR cA] [] pos) env) Q E s:=by
 refine wpAny_Call_method2_late (aQ6 ho) hp rfl (h.then X fun v s' g X' r=>?_)
 obtain ⟨_,rfl⟩:=r.inv
 refine ⟨"str",id,PySem.F.plainAttrs_str,hsl,ht,typeIs_str _ _ _,(fun _=>Value.noConfusion),?_⟩
 refine callWith_builtin rfl (evalArgs_plain (spliced_cons (Constant_str (spliced_cons (Constant_str (spliced_nil ?_))))))
 exact k _ s' g X'.tok
theorem cF1 {o:Expr} {apos pos:Pos} {name:Str} {id:String} {x y:Str} {dD:Nat} {dE:Pos} (X:Cx C lev Γ ns A env ρ Mv s) (hsl:Slot "str" name id) (ht:typeOf (.builtin id)=pure (.type "method_descriptor"))
  (hp:(apos.endLine == pos.line)=true) (ho:aJ6 o) (h:PE C A Mu (eval o env) s (.str x))
  {Q:Value→Shared→Prop} {E:Value→Shared→Prop}
  (k:∀ t s',Go C s s'→0 < s'.toks→wpAny (model C.prog C.w) A (call (.builtin id) [.str x t,.str y s'.toks]) Q E { s' with toks:=s'.toks+1 }) :
  wpAny (model C.prog C.w) A (eval (.Call (.Attribute o name apos) [.Constant (.str y) dD dE] [] pos) env) Q E s:=by
 refine wpAny_Call_method1_late (aQ6 ho) hp rfl (h.then X fun v s' g X' r=>?_)
 obtain ⟨_,rfl⟩:=r.inv
 refine ⟨"str",id,PySem.F.plainAttrs_str,hsl,ht,typeIs_str _ _ _,(fun _=>Value.noConfusion),?_⟩
 refine callWith_builtin rfl (evalArgs_plain (spliced_cons (Constant_str (spliced_nil ?_))))
 exact k _ s' g X'.tok
theorem bD4 {vs:List Value} {ds:List D} {xs:List Str} {G:aU7} (r:RdL C G vs ds) (h:bH5 ds=some xs):∃ l:List (Str × Tok),vs=strValues l∧l.map (·.1)=xs:=by
 refine r.ind (P:=fun vs ds=>∀ xs,bH5 ds=some xs→∃ l:List (Str × Tok),vs=strValues l∧l.map (·.1)=xs) (fun xs h=>⟨[],rfl,Option.some.inj h⟩) (fun {v vs d ds} hd r ih xs h=>?_) xs h
 cases d with
 | str x =>
  obtain ⟨ys,hy,rfl⟩:=Option.map_eq_some_iff.mp (show (bH5 ds).map _=some _ from h)
  obtain ⟨l,rfl,rfl⟩:=ih ys hy
  obtain ⟨t,rfl⟩:=hd.inv
  exact ⟨(x,t)::l,rfl,rfl⟩
 | _=>exact nos h
theorem dD9 {vs:List Value} {ds:List D} {xs:List Int} {G:aU7} (r:RdL C G vs ds) (h:bS5 ds=some xs):IntsAre vs xs:=by
 refine r.ind (P:=fun vs ds=>∀ xs,bS5 ds=some xs→IntsAre vs xs) (fun xs h=>Option.some.inj h ▸ .nil) (fun {v vs d ds} hd r ih xs h=>?_) xs h
 cases d with
 | int x =>
  obtain ⟨ys,hy,rfl⟩:=Option.map_eq_some_iff.mp (show (bS5 ds).map _=some _ from h)
  obtain ⟨t,rfl⟩:=hd.inv
  exact .cons _ _ (ih ys hy)
 | _=>exact nos h
theorem aZ0 {G:aU7}:∀ (l:List (Str × Tok)),RdL C G (strValues l) ((l.map (·.1)).map D.str)
 | []=>.nil
 | (x,t)::l=>.cons (.str x t) (aZ0 l)
theorem cZ6 {x y:Str} {t u:Tok} (M:MuOk C Mu s.heap) (hx:x.length≤lim) (hy:(y.length == 0)=false) :
  PE C A Mu (call (.builtin "str.split") [.str x t,.str y u]) s (.lst ((Txt.split x y).map .str)):=by
 intro Q E k
 have hz:x.length+2≤sizeLine:=aA9 (Nat.add_le_add_right hx 2) (by decide)
 have hn:(Builtin.Str.partsBetween x (Builtin.Str.occurrences x y 0 x.length (x.length+1)) y.length).length≤sizeLine:=by
  have e1:=StrLaws.occ_length_le x y 0 x.length (x.length+1)
  rw [length_partsBetween];exact aA9 (bJ3 e1) hz
 have fin:∀ (l:List (Str × Tok)) tk,l.map (·.1)=Txt.split x y→Q (.ref s.heap.objs.size) { s with heap:=s.heap.push (aB2 (strValues l) 0),toks:=tk }:=fun l tk e=>by
  refine k _ _ (.push _) (.lst (Fz.push M rfl) ?_)
  rw [← e]
  exact aZ0 l
 cases h1:(decide (x.length < y.length) || decide (Builtin.Str.strKind x < Builtin.Str.strKind y))
 ·cases hf:(Builtin.Str.occurrences x y 0 x.length (x.length+1)).isEmpty
  ·refine call_meets F.slot_str_split (typeIs_str _ _ _) F.entry_str_split (F.args_str_split_2 _ _) (meets_str_split_sep x y t u h1 hy hf (bB7 hz) hn) ?_
   show wants Q E _ { s with toks:=_,heap:=s.heap.push { cls:=.type "list",data:=.seq (strsFrom s.toks (Builtin.Str.partsBetween x (Builtin.Str.occurrences x y 0 x.length (x.length+1)) y.length)).toArray } }
   rw [strsFrom_eq]
   exact fin (numbered s.toks _) _ ((numbered_texts _ _).trans ((if_neg (ne_true_of_eq_false h1)).trans (if_neg (ne_true_of_eq_false hf))).symm)
  ·exact call_meets F.slot_str_split (typeIs_str _ _ _) F.entry_str_split (F.args_str_split_2 _ _) (meets_str_split_not_found x y t u h1 hy hf)
    (fin [(x,t)] s.toks ((if_neg (ne_true_of_eq_false h1)).trans (if_pos hf)).symm)
 ·exact call_meets F.slot_str_split (typeIs_str _ _ _) F.entry_str_split (F.args_str_split_2 _ _) (meets_str_split_cannot_occur x y t u h1)
   (fin [(x,t)] s.toks (if_pos h1).symm)
theorem dG9 {vs:List Value} {ds:List D} {l:Addr} {n:Nat} {ns':List Int} (hh:A.handled=none) (e:s.heap.get? l=some (aB2 vs n)) (r:RdL C (Fz s.heap Mv) vs ds) (hi:bS5 ds=some ns')
  (h1:∀ n∈ns',0≤n∧n < 256) (h2:ns'.length≤1000):PE C A Mu (call (.type "bytes") [.ref l]) s (.bytes (ns'.map fun n=>n.toNat.toUInt8).toArray):=by
 intro Q E k
 have hI:=dD9 r hi
 refine call_bytes_ints (aI6 e) hI h1 (by rw [hI.length];exact aA9 h2 (by decide)) hh fun h' t tk hk=>k _ _ (.keep hk) (.bytes _ _)
theorem dT4 {kvs:List (Key × Int)} {key:Key} {i:Int} {kd:D} {o x y:Expr} {apos pos:Pos} (X:Cx C lev Γ ns A env ρ Mv s) (hp:(apos.endLine == pos.line)=true) (ho:aJ6 o)
  (hx:aA8 x=true) (hy:aA8 y=true) (h:PE C A noMu (eval o env) s (.dct kvs)) (hk:dD5 kd=some key)
  (h1:∀ s',Go C s s'→Cx C lev Γ ns A env ρ Mv s'→PE C A noMu (eval x env) s' kd) (h2:∀ s',Go C s s'→Cx C lev Γ ns A env ρ Mv s'→PE C A noMu (eval y env) s' (.int i)) :
  PE C A Mu (eval (.Call (.Attribute o "get" apos) [x,y] [] pos) env) s (.int ((dictGet? kvs key).getD i)):=by
 intro Q E k
 refine wpAny_Call_method2_late (aQ6 ho) hp (by rw [aA5 hx,aA5 hy];rfl) (h.then X fun v s' g X' r=>?_)
 obtain ⟨a,ps,rfl,dy,iy,zy⟩:=aM3 r
 refine ⟨"dict","dict.get",PySem.F.plainAttrs_dict,PySem.F.slot_dict_get,PySem.F.type_dict_get,dy.mapOf.typeIs,dy.mapOf.noDict,?_⟩
 refine wpAny_dict_get2 (knd:=aC0 C.prog C.w) zy ((h1 s' g X').then X' fun v s1 g1 X1 r1=>(h2 s1 (g.trans g1) X1).then X1 fun u s2 g2 X2 r2=>?_)
 have r':=r.go (g1.trans g2)
 refine hid fun Gz zz=>?_
 obtain ⟨a',ps',e',dy',iy',_⟩:=aM3 r'
 refine zz ?_;clear zz Gz
 cases e'
 refine ⟨key,_,aZ8 hk r1,dy'.mapOf,?_⟩
 cases r2
 rename_i tk
 have hv:∃ t,(valueAt ps' key).getD (.int i tk)=.int ((dictGet? kvs key).getD i) t:=by
  cases q:dictGet? kvs key with
  | some j=>obtain ⟨t,ht⟩:=iy'.get q;exact ⟨t,by rw [ht];rfl⟩
  | none =>
   have:valueAt ps' key=none:=by
    have z:=iy'.at key
    have:kvs.any (fun p=>decide (p.1=key))=false:=by
     unfold dictGet? at q
     rw [Option.map_eq_none_iff,List.find?_eq_none] at q
     simpa using q
    rw [this] at z
    simpa using z
   rw [this];exact ⟨_,rfl⟩
 obtain ⟨t,ht⟩:=hv
 rw [ht]
 exact k _ _ (((g.trans g1).trans g2).trans .tok) (.int _ _)
end
end Mine
end
section
open PySem PySem.W PyProof.Rows PySem.Calls PySem.Spec
set_option autoImplicit false
set_option maxRecDepth 100000
namespace Mine
namespace Re
noncomputable def C:Array Nat:=#[14,4,0,1,4294967295,17,0,7,14,24,10,1,4294967295,13,5,22,48,57,0,1,15,17,15,13,11,9,0,26624,2147483648,0,0,0,0,0,0,15,2,0,17,1,1]
noncomputable def k0:Sre.Kept:={ lastmark:=0,lastindex:=-1,whole:=false,marks:=#[] }
noncomputable def fS (s:Nat) (first:Bool):Sre.Frame:={ wait:=.nextStart,pc:=5,pos:=s,outermost:=first }
noncomputable def fB (alt s:Nat) (first:Bool):Sre.Frame:={ wait:=.nextBranch,pc:=alt,pos:=s,outermost:=first,kept:=k0 }
noncomputable def fG (s n:Nat) (first:Bool):Sre.Frame:={ wait:=.giveBack,pc:=9,pos:=s,outermost:=first,count:=n,kept:=k0 }
noncomputable def st (text:Array Nat) (s:Nat) (first:Bool) (pc p:Nat) (handed:Nat) (marks:Array (Option Nat)) (lm li:Int) (frames:List Sre.Frame) (wt:Nat) (ans:Option Bool) (seen:Sre.Seen):Sre.M :=
 { code:=C,text,lim:=text.size,start:=s,lastStart:=text.size,pc,pos:=p,handed,outermost:=first,marks,lastmark:=lm,lastindex:=li,frames,weight:=wt,answer:=ans,seen }
variable {text:Array Nat} {s p h:Nat} {first:Bool} {a b:Option Nat} {seen:Sre.Seen}
theorem s5:(st text s first 5 s s #[a,b] (-1) (-1) [fS s first] 1 none seen).step=st text s first 7 s s #[some s,b] 0 (-1) [fS s first] 1 none (seen.add 17):=rfl
theorem s7:(st text s first 7 s s #[a,b] 0 (-1) [fS s first] 1 none seen).step=st text s first 9 s s #[a,b] 0 (-1) [fB 8 s first,fS s first] 2 none (seen.add 7):=rfl
noncomputable def dig (c:Nat):Bool:=decide (48≤c)&&decide (c≤57)
theorem eJ5 (c:Nat) (seen:Sre.Seen):Sre.accepts C 13 c seen=.ok (dig c,(seen.add 22) |> fun x=>if dig c=true then x else x.add 0):=by
 have e:Sre.accepts C 13 c seen=(if dig c=true then Except.ok (true,seen.add 22) else Except.ok (false,(seen.add 22).add 0)):=rfl
 rw [e]
 cases dig c<;>rfl
noncomputable def digits (text:Array Nat):Nat→Nat→Nat
 | 0,_=>0
 | n+1,p=>if dig (text.getD p 0)=true then digits text n (p+1)+1 else 0
theorem dX9 (text:Array Nat):∀ (n p found:Nat) (seen:Sre.Seen),∃ seen',Sre.run C text 13 n p found seen=.ok (found+digits text n p,seen')
 | 0,p,found,seen=>⟨seen,rfl⟩
 | n+1,p,found,seen=>by
  dsimp only [Sre.run]
  rw [eJ5]
  show ∃ seen',(if dig (text.getD p 0)=true then _ else _)=_
  by_cases h:dig (text.getD p 0)=true
  ·obtain ⟨seen',e⟩:=dX9 text n (p+1) (found+1) _
   rw [if_pos h]
   refine ⟨seen',e.trans ?_⟩
   rw [digits,if_pos h]
   congr 2;lia
  ·rw [if_neg h]
   refine ⟨(seen.add 22).add 0,?_⟩
   rw [digits,if_neg h]
   simp only [h]
   rfl
theorem s9:(st text s first 9 s s #[a,b] 0 (-1) [fB 8 s first,fS s first] 2 none seen).step =
  (if ((1:Nat):Int) > (text.size:Int) - (s:Int) then st text s first 9 s s #[a,b] 0 (-1) [fB 8 s first,fS s first] 2 (some false) (seen.add 24) else
   match Sre.run C text 13 (min 4294967295 ((text.size:Int) - (s:Int)).toNat) s 0 ((seen.add 24).add 13) with
   | .error why=>(st text s first 9 s s #[a,b] 0 (-1) [fB 8 s first,fS s first] 2 none (seen.add 24)).stick why
   | .ok (n,seen')=>if n < 1 then st text s first 9 s s #[a,b] 0 (-1) [fB 8 s first,fS s first] 2 (some false) seen' else
    st text s first 20 (s+n) (s+n) #[a,b] 0 (-1) [fG (s+n) n first,fB 8 s first,fS s first] 3 none seen'):=rfl
theorem r8:(st text s first 9 s s #[a,b] 0 (-1) [fB 8 s first,fS s first] 2 (some false) seen).step=st text s first 23 s s #[a,b] 0 (-1) [fB 22 s first,fS s first] 2 none seen:=rfl
noncomputable def sep (c:Nat):Bool:=decide (c < 256)&&(C.getD (25+(1+c / 32)) 0).testBit (c % 32)
theorem eF9 (c:Nat) (seen:Sre.Seen):Sre.accepts C 23 c seen=(if sep c=true then Except.ok (true,seen.add 9) else Except.ok (false,(seen.add 9).add 0)):=rfl
theorem s23:(st text s first 23 s s #[a,b] 0 (-1) [fB 22 s first,fS s first] 2 none seen).step =
  (if s ≥ text.size then st text s first 23 s s #[a,b] 0 (-1) [fB 22 s first,fS s first] 2 (some false) (seen.add 13) else
   match Sre.accepts C 23 (text.getD s 0) (seen.add 13) with
   | .error why=>(st text s first 23 s s #[a,b] 0 (-1) [fB 22 s first,fS s first] 2 none (seen.add 13)).stick why
   | .ok (false,seen')=>st text s first 23 s s #[a,b] 0 (-1) [fB 22 s first,fS s first] 2 (some false) seen'
   | .ok (true,seen')=>st text s first 35 (s+1) s #[a,b] 0 (-1) [fB 22 s first,fS s first] 2 none seen'):=rfl
theorem r22:(st text s first 23 s s #[a,b] 0 (-1) [fB 22 s first,fS s first] 2 (some false) seen).step=st text s first 22 s s #[a,b] 0 (-1) [fS s first] 1 (some false) seen:=rfl
theorem rS:(st text s first 22 s s #[a,b] 0 (-1) [fS s first] 1 (some false) seen).step =
  (if s < text.size then st text (s+1) false 5 (s+1) (s+1) #[a,b] (-1) (-1) [fS (s+1) false] 1 none seen else st text s first 5 s s #[a,b] 0 (-1) [] 0 (some false) seen):=rfl
theorem s35 {fr:List Sre.Frame} {wt:Nat}:(st text s first 35 p h #[a,b] 0 (-1) fr wt none seen).step=st text s first 38 p h #[a,b] 0 (-1) fr wt none (seen.add 15):=rfl
theorem s20 {fr:List Sre.Frame} {wt:Nat}:(st text s first 20 p h #[a,b] 0 (-1) fr wt none seen).step=st text s first 38 p h #[a,b] 0 (-1) fr wt none (seen.add 15):=rfl
theorem s38 {fr:List Sre.Frame} {wt:Nat}:(st text s first 38 p h #[a,b] 0 (-1) fr wt none seen).step=st text s first 40 p h #[a,some p] 1 1 fr wt none (seen.add 17):=by with_unfolding_all rfl
theorem s40 {fr:List Sre.Frame} {wt:Nat}:(st text s first 40 p h #[a,b] 1 1 fr wt none seen).step=st text s first 40 p p #[a,b] 1 1 fr wt (some true) (seen.add 1):=by
 cases first<;>rfl
theorem yB {fr:List Sre.Frame} {wt pc alt:Nat}:(st text s first pc p h #[a,b] 1 1 (fB alt s first::fr) (wt+1) (some true) seen).step=st text s first alt s h #[a,b] 1 1 fr wt (some true) seen:=rfl
theorem yG {fr:List Sre.Frame} {wt pc n q:Nat}:(st text s first pc p h #[a,b] 1 1 (fG q n first::fr) (wt+1) (some true) seen).step=st text s first 9 q h #[a,b] 1 1 fr wt (some true) seen:=rfl
theorem yS {fr:List Sre.Frame} {wt pc:Nat}:(st text s first pc p h #[a,b] 1 1 (fS s first::fr) (wt+1) (some true) seen).step=st text s first 5 s h #[a,b] 1 1 fr wt (some true) seen:=rfl
end Re
end Mine
end
section
open PySem PySem.W PyProof.Rows PySem.Calls PySem.Spec PySem.Builtin.Re
set_option autoImplicit false
set_option maxRecDepth 100000
namespace Mine
namespace Re
open Sre (M)
theorem aJ7 {m:M} (h:m.outcome.isSome=true):∀ n,M.runFor n m=m
 | 0=>rfl
 | n+1=>if_pos h
theorem aO5:∀ (a b:Nat) (m:M),M.runFor (a+b) m=M.runFor b (M.runFor a m)
 | 0,b,m=>by rw [Nat.zero_add];rfl
 | a+1,b,m=>by
  rw [Nat.add_right_comm]
  by_cases h:m.outcome.isSome=true
  ·rw [aJ7 h,aJ7 h,aJ7 h]
  ·exact (if_neg h).trans ((aO5 a b m.step).trans (congrArg _ (if_neg h).symm))
inductive To:Nat→M→M→Prop
 | refl (m:M):To 0 m m
 | step {n:Nat} {m m':M} (h:m.outcome=none) (t:To n m.step m'):To (n+1) m m'
theorem To.run {n:Nat} {m m':M} (t:To n m m'):M.runFor n m=m':=by
 induction t with
 | refl=>rfl
 | step h t ih=>exact (if_neg (by rw [h];exact Bool.false_ne_true)).trans ih
theorem To.trans {a b:Nat} {m m' m'':M} (t:To a m m') (u:To b m' m''):To (a+b) m m'':=by
 induction t with
 | refl=>rw [Nat.zero_add];exact u
 | step h t ih=>rw [Nat.add_right_comm];exact .step h (ih u)
theorem To.one {m m':M} (h:m.outcome=none) (e:m.step=m'):To 1 m m':=.step h (e ▸ .refl _)
section
variable {cz:Model} {A:Around} {E:Value→Shared→Prop} {s:Shared}
theorem drive:∀ (turns n:Nat) (m:M) {Q:M→Shared→Prop},(M.runFor n m).outcome.isSome=true→n≤4*turns→0 < turns→Q (M.runFor n m) s→wpAny cz A (reDrive turns m) Q E s
 | 0,n,m,Q,h,hn,h0,q=>absurd h0 ((by decide))
 | turns+1,n,m,Q,h,hn,h0,q=>by
  dsimp only [reDrive]
  show wpAny _ A (if (M.runFor 4 m).outcome.isSome then pure (M.runFor 4 m) else _) _ _ _
  by_cases h4:(M.runFor 4 m).outcome.isSome=true
  ·rw [if_pos h4]
   refine wpAny_pure ?_
   have e:M.runFor n m=M.runFor 4 m:=by
    rcases Nat.le_total n 4 with z | z
    ·have e:=aO5 n (4 - n) m
     rw [aJ7 h,Nat.add_sub_cancel' z] at e
     exact e.symm
    ·obtain ⟨k,rfl⟩:=Nat.exists_eq_add_of_le z
     rw [aO5,aJ7 h4]
   rw [← e];exact q
  ·rw [if_neg h4]
   have hn4:4 < n:=by
    rcases Nat.lt_or_ge 4 n with z | z
    ·exact z
    ·have e:=aO5 n (4 - n) m
     rw [aJ7 h,Nat.add_sub_cancel' z] at e
     rw [e] at h4
     exact absurd h h4
   obtain ⟨k,rfl⟩:=Nat.exists_eq_add_of_le (bL8 hn4)
   rw [aO5] at h q
   exact wpAny_bind (wpAny_rule (drive turns k _ h (by lia) (by lia) q))
theorem dN8 {n:Nat} {m m':M} {Q:Option M→Shared→Prop} (t:To n m m') (hn:n≤2 ^ 60) (he:m'.outcome=some .matched∧Q (some m') s∨m'.outcome=some .failed∧Q none s):wpAny cz A (reRunToEnd m) Q E s:=by
 dsimp only [reRunToEnd]
 have ho:(M.runFor n m).outcome.isSome=true:=by rw [t.run];rcases he with ⟨e,_⟩ | ⟨e,_⟩<;>rw [e]<;>rfl
 refine wpAny_bind (drive _ n m ho (aA9 hn (cl rfl)) (by decide) ?_)
 rw [t.run]
 refine wpAny_bind (wpAny_forIn_list _ (fun _ _ s'=>s'=s) _ (fun x rest b s' hs=>?_) (fun _ s' hs=>?_) _ _ rfl)
 ·subst hs
  split
  ·exact wpAny_bind (wpAny_rule (wpAny_pure rfl))
  ·exact wpAny_pure rfl
 ·subst hs
  rcases he with ⟨e,q⟩ | ⟨e,q⟩
  ·rw [e];exact wpAny_pure q
  ·rw [e];exact wpAny_pure q
end
end Re
end Mine
end
section
open PySem PySem.W PyProof.Rows PySem.Calls PySem.Spec PySem.Builtin.Re
set_option autoImplicit false
set_option maxRecDepth 100000
namespace Mine
namespace Re
open Sre (M)
theorem To.cons {n:Nat} {m cY m':M} (e:m.step=cY) (t:To n cY m') (h:m.outcome=none:=by rfl):To (n+1) m m':=.step h (e ▸ t)
noncomputable def aH8:List Nat→Nat
 | []=>0
 | c::r=>if bD9 c=true then aH8 r+1 else 0
noncomputable def aL1:List Nat→Option (Nat × Nat)
 | []=>none
 | c::r=>if bD9 c=true then some (0,aH8 r+1) else if bW0 c=true then some (0,1) else (aL1 r).map fun p=>(p.1+1,p.2)
theorem bG3 {text:Array Nat} {s c:Nat} {r:List Nat} (h:text.toList.drop s=c::r):text.getD s 0=c∧text.toList.drop (s+1)=r∧s < text.size:=by
 have hlt:s < text.toList.length:=by
  rcases Nat.lt_or_ge s text.toList.length with z | z
  ·exact z
  ·rw [List.drop_eq_nil_of_le z] at h;cases h
 rw [List.drop_eq_getElem_cons hlt] at h
 injection h with h1 h2
 have hlt':s < text.size:=by simpa using hlt
 refine ⟨?_,h2,hlt'⟩
 rw [← h1]
 simp [hlt']
theorem eE0 (c:Nat):dig c=bD9 c:=rfl
theorem bT1 {text:Array Nat}:∀ (l:List Nat) (n s:Nat),text.toList.drop s=l→l.length≤n→digits text n s=aH8 l
 | [],n,s,h,hn=>by
  cases n with
  | zero=>rfl
  | succ n =>
   have hge:text.size≤s:=by
    have:=congrArg List.length h
    simp at this;exact dO5 this
   have:text.getD s 0=0:=by simp [Array.getD,Nat.not_lt.mpr hge]
   rw [digits,this];rfl
 | c::r,0,s,h,hn=>by simp at hn
 | c::r,n+1,s,h,hn=>by
  obtain ⟨h1,h2,_⟩:=bG3 h
  rw [digits,h1,eE0,aH8]
  by_cases hd:bD9 c=true
  ·rw [if_pos hd,if_pos hd,bT1 r n (s+1) h2 (by simpa using hn)]
  ·rw [if_neg hd,if_neg hd]
theorem dJ3 (c:Nat):sep c=bW0 c:=by
 have key:∀ c:Fin 256,(decide (c.val < 256)&&(C.getD (25+(1+c.val / 32)) 0).testBit (c.val % 32))=(c.val == 43 || c.val == 45 || c.val == 46 || c.val == 95):=by decide +kernel
 unfold sep bW0
 by_cases h:c < 256
 ·exact key ⟨c,h⟩
 ·rw [decide_eq_false h,Bool.false_and]
  symm
  simp;lia
section
variable {text:Array Nat} {s p h:Nat} {first:Bool} {a b:Option Nat} {seen:Sre.Seen}
theorem eD3 {wt pc:Nat}:(st text s first pc p h #[a,b] 0 (-1) [] wt (some false) seen).step.outcome=some .failed:=rfl
theorem cT3 {wt pc:Nat}:(st text s first pc p h #[a,b] 1 1 [] wt (some true) seen).step.outcome=some .matched:=rfl
noncomputable def Ends (text:Array Nat) (s:Nat) (l:List Nat) (m:M):Prop:=match aL1 l with
 | none=>m.outcome=some .failed
 | some (k,d)=>m.outcome=some .matched∧m.start=s+k∧m.handed=s+k+d∧m.marks=#[some (s+k),some (s+k+d)]∧m.lastmark=1
theorem aV5 {pc:Nat} {fr:List Sre.Frame} {wt:Nat} (hpc:pc=35∨pc=20) :
  ∃ seen',To 3 (st text s first pc p h #[a,b] 0 (-1) fr wt none seen) (st text s first 40 p p #[a,some p] 1 1 fr wt (some true) seen'):=by
 rcases hpc with rfl | rfl
 ·exact ⟨_,.cons s35 (.cons s38 (.cons s40 (.refl _)))⟩
 ·exact ⟨_,.cons s20 (.cons s38 (.cons s40 (.refl _)))⟩
theorem dX7:∀ (c:Nat) (r:List Nat) (hl:text.toList.drop s=c::r) (hs:text.size≤1000),∃ seen',
  (st text s first 9 s s #[a,b] 0 (-1) [fB 8 s first,fS s first] 2 none seen).step =
   if bD9 c=true then st text s first 20 (s+(aH8 r+1)) (s+(aH8 r+1)) #[a,b] 0 (-1) [fG (s+(aH8 r+1)) (aH8 r+1) first,fB 8 s first,fS s first] 3 none seen'
   else st text s first 9 s s #[a,b] 0 (-1) [fB 8 s first,fS s first] 2 (some false) seen':=by
 intro c r hl hs
 refine hid fun Gz zz=>?_
 obtain ⟨h1,h2,h3⟩:=bG3 hl
 refine zz ?_;clear zz Gz
 have hlen:(c::r).length=text.size - s:=by rw [← hl];simp
 rw [s9,if_neg (by lia)]
 have hmin:min 4294967295 ((text.size:Int) - (s:Int)).toNat=text.size - s:=eW2 hs
 rw [hmin]
 obtain ⟨seen',e⟩:=dX9 text (text.size - s) s 0 ((seen.add 24).add 13)
 rw [e,Nat.zero_add,bT1 (c::r) _ s hl (dV6 hlen)]
 dsimp only
 rw [aH8]
 by_cases hd:bD9 c=true
 ·rw [if_pos hd,if_neg (bQ9 dV5)]
  exact ⟨seen',by rw [if_pos hd]⟩
 ·rw [if_neg hd,if_pos (by lia)]
  exact ⟨seen',by rw [if_neg hd]⟩
theorem cT1:∀ (l:List Nat) {s:Nat} {first:Bool} {a b:Option Nat} {seen:Sre.Seen},text.toList.drop s=l→text.size≤1000→s≤text.size →
  ∃ n m',To n (st text s first 5 s s #[a,b] (-1) (-1) [fS s first] 1 none seen) m'∧n≤7*l.length+20∧Ends text s l m'
 | [],s,first,a,b,seen,hl,hs,hle=>by
  have hge:text.size≤s:=by
   have:=congrArg List.length hl
   simp at this;exact dO5 this
  have e9:∀ seen,(st text s first 9 s s #[some s,b] 0 (-1) [fB 8 s first,fS s first] 2 none seen).step=st text s first 9 s s #[some s,b] 0 (-1) [fB 8 s first,fS s first] 2 (some false) (seen.add 24):=fun seen=>by
   rw [s9,if_pos (by lia)]
  have e23:∀ seen,(st text s first 23 s s #[some s,b] 0 (-1) [fB 22 s first,fS s first] 2 none seen).step=st text s first 23 s s #[some s,b] 0 (-1) [fB 22 s first,fS s first] 2 (some false) (seen.add 13):=fun seen=>by
   rw [s23,if_pos hge]
  have eS:∀ seen,(st text s first 22 s s #[some s,b] 0 (-1) [fS s first] 1 (some false) seen).step=st text s first 5 s s #[some s,b] 0 (-1) [] 0 (some false) seen:=fun seen=>by
   rw [rS,if_neg (bQ9 hge)]
  exact ⟨8,_,.cons s5 (.cons s7 (.cons (e9 _) (.cons r8 (.cons (e23 _) (.cons r22 (.cons (eS _) (.cons rfl (.refl _)))))))),by simp,eD3⟩
 | c::r,s,first,a,b,seen,hl,hs,hle=>by
  obtain ⟨h1,h2,h3⟩:=bG3 hl
  by_cases hd:bD9 c=true
  ·obtain ⟨seen9,e9⟩:=dX7 (first:=first) (a:=some s) (b:=b) (seen:=(seen.add 17).add 7) c r hl hs
   rw [if_pos hd] at e9
   obtain ⟨seen',t⟩:=aV5 (text:=text) (s:=s) (p:=s+(aH8 r+1)) (h:=s+(aH8 r+1)) (first:=first) (a:=some s) (b:=b) (seen:=seen9) (pc:=20) (fr:=[fG (s+(aH8 r+1)) (aH8 r+1) first,fB 8 s first,fS s first]) (wt:=3) (.inr rfl)
   have t':=t.trans (.cons yG (.cons yB (.cons yS (.cons rfl (.refl _)))))
   refine ⟨_,_,.cons s5 (.cons s7 (.cons e9 t')),by simp,?_⟩
   unfold Ends
   rw [aL1,if_pos hd]
   exact ⟨cT3,rfl,rfl,rfl,rfl⟩
  ·obtain ⟨seen9,e9⟩:=dX7 (first:=first) (a:=some s) (b:=b) (seen:=(seen.add 17).add 7) c r hl hs
   rw [if_neg hd] at e9
   by_cases hp:bW0 c=true
   ·have e23:∀ seen,∃ seen',(st text s first 23 s s #[some s,b] 0 (-1) [fB 22 s first,fS s first] 2 none seen).step=st text s first 35 (s+1) s #[some s,b] 0 (-1) [fB 22 s first,fS s first] 2 none seen':=fun seen=>by
     refine ⟨?_,?_⟩
     rotate_left
     ·rw [s23,if_neg (dP0 h3),eF9,h1,dJ3,if_pos hp]
    obtain ⟨seen23,e23⟩:=e23 seen9
    obtain ⟨seen',t⟩:=aV5 (text:=text) (s:=s) (p:=s+1) (h:=s) (first:=first) (a:=some s) (b:=b) (seen:=seen23) (pc:=35) (fr:=[fB 22 s first,fS s first]) (wt:=2) (.inl rfl)
    have t':=t.trans (.cons yB (.cons yS (.cons rfl (.refl _))))
    refine ⟨_,_,.cons s5 (.cons s7 (.cons e9 (.cons r8 (.cons e23 t')))),by simp,?_⟩
    unfold Ends
    rw [aL1,if_neg hd,if_pos hp]
    exact ⟨cT3,rfl,rfl,rfl,rfl⟩
   ·have e23:∀ seen,∃ seen',(st text s first 23 s s #[some s,b] 0 (-1) [fB 22 s first,fS s first] 2 none seen).step=st text s first 23 s s #[some s,b] 0 (-1) [fB 22 s first,fS s first] 2 (some false) seen':=fun seen=>by
     refine ⟨?_,?_⟩
     rotate_left
     ·rw [s23,if_neg (dP0 h3),eF9,h1,dJ3,if_neg hp]
    refine hid fun Gz zz=>?_
    obtain ⟨seen23,e23⟩:=e23 seen9
    have eS:∀ seen,(st text s first 22 s s #[some s,b] 0 (-1) [fS s first] 1 (some false) seen).step=st text (s+1) false 5 (s+1) (s+1) #[some s,b] (-1) (-1) [fS (s+1) false] 1 none seen:=fun seen=>by
     rw [rS,if_pos h3]
    obtain ⟨n,m',t,hn,he⟩:=cT1 r (s:=s+1) (first:=false) (a:=some s) (b:=b) (seen:=seen23) h2 hs h3
    refine zz ?_;clear zz Gz
    refine ⟨_,m',.cons s5 (.cons s7 (.cons e9 (.cons r8 (.cons e23 (.cons r22 (.cons (eS _) t)))))),by simp only [List.length_cons];lia,?_⟩
    unfold Ends at he ⊢
    rw [aL1,if_neg hd,if_neg hp]
    cases hf:aL1 r with
    | none=>rw [hf] at he;exact he
    | some q =>
     rw [hf] at he
     refine hid fun Gz zz=>?_
     obtain ⟨x1,x2,x3,x4,x5⟩:=he
     refine zz ?_;clear zz Gz
     have z1:s+1+q.1=s+(q.1+1):=by lia
     try dsimp only at x2 x3 x4
     rw [z1] at x2 x3 x4
     exact ⟨x1,x2,x3,x4,x5⟩
end
end Re
end Mine
end
section
open PySem PySem.W PyProof.Rows PySem.Calls PySem.Spec PySem.Builtin.Re
set_option autoImplicit false
set_option maxRecDepth 100000
namespace Mine
namespace Re
open Sre (M)
theorem dK1:∀ (r cur run:List Nat),run≠[]→aT5 r cur run=cur::(run++r.take (aH8 r))::aT5 (r.drop (aH8 r)) [] []
 | [],cur,run,h=>by
  have:run.isEmpty=false:=by cases run<;>simp_all
  simp [aT5,aH8,this]
 | c::r,cur,run,h=>by
  have hr:run.isEmpty=false:=by cases run<;>simp_all
  by_cases hd:bD9 c=true
  ·rw [aT5,if_pos hd,dK1 r cur (run++[c]) (by simp),aH8,if_pos hd]
   simp
  ·rw [aT5,if_neg hd,aH8,if_neg hd,List.take_zero,List.drop_zero,List.append_nil]
   simp only [hr,Bool.false_eq_true,if_false]
   congr 2
   rw [aT5,if_neg hd]
   simp
theorem cS5:∀ (l cur:List Nat),aT5 l cur []=match aL1 l with
  | none=>[cur++l]
  | some (k,d)=>(cur++l.take k)::(l.drop k).take d::aT5 (l.drop (k+d)) [] []
 | [],cur=>by simp [aT5,aL1]
 | c::r,cur=>by
  by_cases hd:bD9 c=true
  ·rw [aT5,if_pos hd,aL1,if_pos hd,List.nil_append,dK1 r cur [c] (by simp)]
   simp
  ·rw [aT5,if_neg hd,aL1,if_neg hd]
   simp only [List.isEmpty_nil,if_true]
   by_cases hp:bW0 c=true
   ·rw [if_pos hp,if_pos hp]
    simp
   ·rw [if_neg hp,if_neg hp,cS5 r (cur++[c])]
    cases hf:aL1 r with
    | none=>simp
    | some q =>
     obtain ⟨k,d⟩:=q
     simp [Nat.add_right_comm]
theorem bQ5:∀ l:List Nat,aH8 l≤l.length
 | []=>Nat.le_refl _
 | c::r=>by
  dsimp only [aH8]
  have:=bQ5 r
  split
  ·rw [List.length_cons];exact bL9 this (cl rfl)
  ·exact dV5
theorem cT2:∀ (l:List Nat) {k d:Nat},aL1 l=some (k,d)→k+d≤l.length∧1≤d
 | [],k,d,h=>by exact nos h
 | c::r,k,d,h=>by
  dsimp only [aL1] at h
  split at h
  ·cases h
   have:=bQ5 r
   simp;exact this
  ·split at h
   ·cases h;simp
   ·obtain ⟨q,hq,e⟩:=Option.map_eq_some_iff.mp h
    have:=cT2 r (k:=q.1) (d:=q.2) hq
    cases e
    simp;lia
theorem eD0 (text:Array Nat) (s:Nat):Sre.forSearch C text 1 s text.size false=(if (decide (s > text.size) || decide (text.size - s < 1))=true then
   (({ code:=C,text,lim:=text.size,start:=s,pc:=5,pos:=s,handed:=s,marks:=Array.replicate (2*1) none,mustAdvance:=false,seen:=({}:Sre.Seen).add 14 }:M).say false) else
   st text s true 5 s s #[none,none] (-1) (-1) [fS s true] 1 none (({}:Sre.Seen).add 14)):=by
 with_unfolding_all rfl
theorem eM8 {text:Array Nat} {s:Nat} (h:s < text.size):Sre.forSearch C text 1 s text.size false=st text s true 5 s s #[none,none] (-1) (-1) [fS s true] 1 none (({}:Sre.Seen).add 14):=by
 rw [eD0,if_neg (by simp;lia)]
theorem eM9 {text:Array Nat} {s:Nat} (h:text.size≤s):(Sre.forSearch C text 1 s text.size false).outcome=none∧(Sre.forSearch C text 1 s text.size false).step.outcome=some .failed:=by
 have hc:(decide (s > text.size) || decide (text.size - s < 1))=true:=by simp;lia
 rw [eD0,if_pos hc]
 exact ⟨rfl,rfl⟩
section
variable {cz:Model} {A:Around} {E:Value→Shared→Prop} {s:Shared}
noncomputable def cX1 (text:Array Nat) (t:ReTarget):Prop:=t.code=C∧t.text=text∧t.kind=0∧t.groups=1∧t.lim=text.size
noncomputable def Got (i:Nat) (l:List Nat) (r:Option Sre.M):Prop:=match aL1 l with
 | none=>r=none
 | some (k,d)=>∃ m:Sre.M,r=some m∧m.start=i+k∧m.handed=i+k+d∧m.marks=#[some (i+k),some (i+k+d)]∧m.lastmark=1
theorem eC8 {text:Array Nat} {i:Nat} {l:List Nat} {m':Sre.M} {Q:Option M→Shared→Prop} (he:Ends text i l m') (h:∀ r,Got i l r→Q r s) :
  m'.outcome=some .matched∧Q (some m') s∨m'.outcome=some .failed∧Q none s:=by
 unfold Ends at he
 unfold Got at h
 cases hf:aL1 l with
 | none=>rw [hf] at he h;exact .inr ⟨he,h _ rfl⟩
 | some q =>
  rw [hf] at he h
  exact .inl ⟨he.1,h _ ⟨m',rfl,he.2⟩⟩
theorem dQ7 {text:Array Nat} {t:ReTarget} (ht:cX1 text t) (i:Nat):reNextFound t i false=reRunToEnd (Sre.forSearch C text 1 i text.size false):=by
 refine hid fun Gz zz=>?_
 obtain ⟨h1,h2,h3,h4,h5⟩:=ht
 refine zz ?_;clear zz Gz
 unfold reNextFound
 simp only [h1,h2,h4,h5]
theorem dQ6 {text:Array Nat} {t:ReTarget} (ht:cX1 text t) {i:Nat} {l:List Nat} (hl:text.toList.drop i=l) (hs:text.size≤1000) (hi:i≤text.size) {Q:Option M→Shared→Prop}
  (h:∀ r,Got i l r→Q r s):wpAny cz A (reNextFound t i false) Q E s:=by
 have hlen:l.length≤1000:=by rw [← hl];simp;exact dO6 hs
 have key:∃ n m',To n (Sre.forSearch C text 1 i text.size false) m'∧n≤1000000∧Ends text i l m':=by
  rcases Nat.lt_or_ge i text.size with z | z
  ·obtain ⟨n,m',t',hn,he⟩:=cT1 (text:=text) l (first:=true) (a:=none) (b:=none) (seen:=({}:Sre.Seen).add 14) hl hs hi
   exact ⟨n,m',(eM8 z).symm ▸ t',by lia,he⟩
  ·have hnil:l=[]:=by rw [← hl];exact List.drop_eq_nil_of_le (z)
   subst hnil
   obtain ⟨e1,e2⟩:=eM9 (text:=text) z
   exact ⟨1,_,.cons rfl (.refl _) e1,by decide,e2⟩
 obtain ⟨n,m',t',hn,he⟩:=key
 exact (dQ7 ht i).symm ▸ dN8 t' (aA9 hn (by decide)) (eC8 he h)
end
end Re
end Mine
end
section
open PySem PySem.W PyProof.Rows PySem.Calls PySem.Spec PySem.Builtin.Re
set_option autoImplicit false
set_option maxRecDepth 100000
namespace Mine
namespace Re
open Sre (M)
theorem plainAttrs_pat:PlainAttrs "re.Pattern" :=
 ⟨⟨"object.__getattribute__",by rw [typeLookup_type,builtinLookup_eq_fast];kernel_rfl,by decide +kernel⟩,by rw [typeLookup_type,builtinLookup_eq_fast];kernel_rfl⟩
theorem slot_re_split:Slot "re.Pattern" "split" "re.Pattern.split" :=
 .of (owner:="re.Pattern") (n:="split") (by rw [typeLookup_type,builtinLookup_eq_fast];kernel_rfl) (by decide +kernel) (by decide +kernel) (by decide +kernel)
  (by first | exact .inl (by decide +kernel) | exact .inr (by decide +kernel)) (by rw [isSubtype_type];kernel_rfl)
theorem type_re_split:typeOf (.builtin "re.Pattern.split")=pure (.type "method_descriptor"):=by show builtinType _=_;rw [builtinType_eq_fast];kernel_rfl
theorem entry_re_split:entryFor table "re.Pattern.split"=some Builtin.«re.Pattern.split»:=entryFor_of_tree (by kernel_rfl)
theorem args_re_split (a b:Value):argsOk "re.Pattern.split" ⟨[a,b],[]⟩:=by skip;kernel_rfl
theorem dT8:(patCode.toArray.map reRawOf).map (·.toNat)=C:=by decide +kernel
theorem dC7 (v:Value):reNamed "re.Pattern.split" "split" ["string","maxsplit"] 1 [v] []=pure [some v,none]:=by
 rfl
section
variable {prog:Program} {w:World}
structure PatAt (h:Heap) (a:Addr):Prop where
 is:∃ o oc src fl c n,h.get? a=some o∧(o.cls=.type "re.Pattern"∧o.dict=none)∧o.data=.fields #[src,fl,rawInt 1,.none,.none,.ref c,rawInt 0]∧h.get? c=some oc∧oc.data=.seq patCode.toArray n
noncomputable def cN7 (a:Addr) (x:Str) (t:Tok):PySem.Spec:=fun _ R s=>PatAt s.heap a∧x.length≤1000∧∀ (l:List (Str × Tok)) tk,l.map (·.1)=reSplit x→R (.ok (.ret (.ref s.heap.objs.size))) { s with heap:=s.heap.push (aB2 (strValues l) 0),toks:=tk }
noncomputable def toS (L:List (List Nat)):List Str:=L.map fun l=>⟨l.toArray⟩
noncomputable def Inv (x:Str) (s:Shared) (rest:List Nat) (st:Array Value × Nat × Nat × Bool × Int × Bool) (s':Shared):Prop :=
 ∃ (l:List (Str × Tok)) (i:Nat) (n:Int) (over:Bool) (tk:Nat),st=((strValues l).toArray,i,i,false,n,over)∧s'={ s with toks:=tk }∧i≤x.cps.size ∧
 (over=false→l.map (·.1)++toS (aT5 (x.cps.toList.drop i) [] [])=reSplit x∧(x.cps.toList.drop i).length+1≤rest.length) ∧
 (over=true→l.map (·.1)++[⟨(x.cps.toList.drop i).toArray⟩]=reSplit x)
theorem aN9 (l:List (Str × Tok)) (x:Str) (t:Tok):(strValues l).toArray.push (.str x t)=(strValues (l++[(x,t)])).toArray:=by
 simp [strValues]
theorem dK2 (text:Array Nat) (i k:Nat):text.extract i (i+k)=((text.toList.drop i).take k).toArray:=by
 apply Array.ext'
 simp [List.take_drop]
theorem dS5 (text:Array Nat) (i:Nat):text.extract i text.size=(text.toList.drop i).toArray:=by
 apply Array.ext'
 simp [List.take_of_length_le]
theorem bL3 {cz:Model} {A:Around} {E:Value→Shared→Prop} {s:Shared} {text:Array Nat} {b e:Nat} {Q:Value→Shared→Prop} (hs:text.size≤1000)
  (h:Q (.str ⟨text.extract b e⟩ s.toks) { s with toks:=s.toks+1 }):wpAny cz A (reSlice text 0 b e) Q E s:=by
 unfold reSlice
 refine wpAny_mkStr h ?_
 show (text.extract b e).size≤sizeLine
 rw [Array.size_extract]
 have:1000≤sizeLine:=by decide
 lia
theorem dM7 {A:Around} {E:Value→Shared→Prop} {s:Shared} {x:Str} {t:ReTarget} (ht:cX1 x.cps t) (hx:x.length≤1000) (z:Nat) (rest:List Nat) (st:Array Value × Nat × Nat × Bool × Int × Bool) (s':Shared) (hI:Inv x s (z::rest) st s') :
  wpAny (model prog w) A (if (!st.2.2.2.2.2)=true then do
     let r ← if ((0:Int) != 0&&decide (st.2.2.2.2.1 ≥ 0))=true then pure none else reNextFound t st.2.1 st.2.2.2.1
     match r with
      | none=>pure (ForInStep.yield (st.1,st.2.1,st.2.2.1,st.2.2.2.1,st.2.2.2.2.1,true))
      | some m=>do
       let v ← reSlice t.text t.kind st.2.2.1 m.start
       let out ← forIn (List.range t.groups) (st.1.push v) fun g acc=>do
        let u ← reMachineGroup t m (g+1) (pure Value.none)
        pure (ForInStep.yield (acc.push u))
       pure (ForInStep.yield (out,m.handed,m.handed,m.handed == m.start,st.2.2.2.2.1+1,st.2.2.2.2.2))
    else pure (ForInStep.yield (st.1,st.2.1,st.2.2.1,st.2.2.2.1,st.2.2.2.2.1,st.2.2.2.2.2)))
   (fun r s'=>match r with | .yield b'=>Inv x s rest b' s' | .done _=>False) E s':=by
 refine hid fun Gz zz=>?_
 obtain ⟨l,i,n,over,tk,rfl,rfl,hi,h1,h2⟩:=hI
 obtain ⟨t1,t2,t3,t4,t5⟩:=id ht
 refine zz ?_;clear zz Gz
 cases over with
 | true=>exact wpAny_pure ⟨l,i,n,true,tk,rfl,rfl,hi,(fun h=>nomatch h),h2⟩
 | false =>
  obtain ⟨g1,g2⟩:=h1 rfl
  show wpAny _ A (reNextFound t i false >>= _) _ _ _
  refine wpAny_bind (dQ6 ht rfl hx hi fun r hr=>?_)
  unfold Got at hr
  rw [cS5] at g1
  cases hf:aL1 (x.cps.toList.drop i) with
  | none =>
   rw [hf] at hr g1
   dsimp only at hr
   subst hr
   exact wpAny_pure ⟨l,i,n,true,tk,rfl,rfl,hi,(fun h=>nomatch h),fun _=>g1⟩
  | some q =>
   refine hid fun Gz zz=>?_
   obtain ⟨k,d⟩:=q
   rw [hf] at hr g1
   obtain ⟨m,rfl,m1,m2,m3,m4⟩:=hr
   refine zz ?_;clear zz Gz
   dsimp only at g1 ⊢
   obtain ⟨hkd,hd⟩:=cT2 _ hf
   have hdl:(x.cps.toList.drop i).length=x.cps.size - i:=by simp
   have hx':x.cps.size≤1000:=hx
   rw [t2,t3,t4,m1]
   refine wpAny_bind (bL3 hx' ?_)
   rw [dK2,aN9]
   rw [show List.range 1=[0] from rfl,List.forIn_cons]
   refine wpAny_bind (wpAny_bind ?_)
   dsimp only [reMachineGroup]
   rw [m3,m4,t2,t3,if_neg (by decide)]
   refine wpAny_bind ?_
   show wpAny _ A (if i+k+d < i+k then reWrongSpan else reSlice x.cps 0 (i+k) (i+k+d)) _ _ _
   rw [if_neg (bQ9 dV3)]
   refine bL3 hx' (wpAny_pure ?_)
   dsimp only
   rw [List.forIn_nil]
   refine wpAny_pure (wpAny_pure ?_)
   rw [dK2,aN9,m2]
   refine ⟨l++[((⟨(List.take k (List.drop i x.cps.toList)).toArray⟩:Str),tk)]++[((⟨(List.take d (List.drop (i+k) x.cps.toList)).toArray⟩:Str),tk+1)],i+k+d,n+1,false,_,?_,rfl,eR9 hkd hdl hd,fun _=>⟨?_,?_⟩,fun h=>nomatch h⟩
   ·rw [show (i+k+d == i+k)=false from beq_eq_false_iff_ne.mpr (dA6 (bQ7 (cA8 hd)))]
   ·rw [← g1]
    simp [toS,List.drop_drop,Nat.add_assoc]
   ·simp only [List.length_drop,List.length_cons] at g2 ⊢
    simp only [Array.length_toList] at g2 ⊢
    exact eR8 hkd hdl hd g2
theorem bS7:∀ (l cur run:List Nat),(aT5 l cur run).length≤2*l.length+(if run.isEmpty=true then 1 else 3)
 | [],cur,run=>by
  dsimp only [aT5]
  cases run<;>simp
 | c::r,cur,run=>by
  have h1:=bS7 r cur (run++[c])
  have h2:=bS7 r [] []
  have h3:=bS7 r (cur++[c]) []
  have h4:=bS7 r [c] []
  have e1:(run++[c]).isEmpty=false:=by cases run<;>rfl
  simp only [e1,Bool.false_eq_true,if_false] at h1
  simp only [List.isEmpty_nil,if_true] at h2 h3 h4
  dsimp only [aT5]
  by_cases hd:bD9 c=true
  ·rw [if_pos hd,List.length_cons]
   split<;>lia
  ·rw [if_neg hd]
   by_cases hr:run.isEmpty=true
   ·rw [if_pos hr,if_pos hr]
    split
    ·simp only [List.length_cons];exact bL9 (bJ3 h2) (cl rfl)
    ·simp only [List.length_cons];exact aO0 (aO0 h3)
   ·rw [if_neg hr,if_neg hr]
    split
    ·simp only [List.length_cons];lia
    ·simp only [List.length_cons];exact bL9 (bJ3 h4) (cl rfl)
theorem meets_split (a:Addr) (x:Str) (t:Tok):MeetsIn prog w (Builtin.«re.Pattern.split» ⟨[.ref a,.str x t],[]⟩) (cN7 a x t):=by
 intro A R s h
 refine hid fun Gz zz=>?_
 obtain ⟨⟨o,oc,src,fl,c,n,h1,h2,h3,h4,h5⟩,hx,K⟩:=h
 refine zz ?_;clear zz Gz
 unfold Builtin.«re.Pattern.split»
 dsimp only
 refine wpAny_bind (wpAny_of_eq (dC7 _) ?_)
 refine wpAny_bind (wpAny_pure ?_)
 skip
 refine wpAny_bind (wpAny_bind (wpAny_fieldsOf h1 h3 (wpAny_bind ?_)))
 skip
 refine wpAny_bind (wpAny_pure (wpAny_pure ?_))
 refine wpAny_bind (wpAny_of_eq (a:=()) rfl ?_)
 skip
 refine wpAny_bind (wpAny_bind (wpAny_seqItems h4 h5 (wpAny_pure (wpAny_pure ?_))))
 refine wpAny_bind ?_
 refine wpAny_forIn_list _ (Inv x s) _ (fun z rest st s' hI=>?_) (fun st s' hI=>?_) _ _ ?_
 ·refine wpAny_mono (dM7 (t:=_) ⟨dT8,rfl,rfl,rfl,rfl⟩ hx z rest st s' hI) (fun r s'' h=>?_) fun _ _ e=>e
  cases r with
  | yield b=>exact h
  | done b=>exact h.elim
 ·obtain ⟨l,i,n,over,tk,rfl,rfl,hi,g1,g2⟩:=hI
  cases over with
  | false=>exact absurd (g1 rfl).2 (by simp)
  | true =>
   dsimp only
   refine wpAny_bind (bL3 hx ?_)
   rw [show x.cps.extract i x.cps.size=_ from dS5 _ _,aN9]
   refine wpAny_bind (wpAny_newList ?_ ?_)
   ·refine wpAny_pure ?_
    exact K _ _ (by rw [List.map_append];exact g2 rfl)
   ·have e:=congrArg List.length (g2 rfl)
    rw [List.length_append,List.length_map] at e
    have e2:(reSplit x).length≤2*x.cps.size+3:=by
     unfold reSplit
     rw [List.length_map]
     have:=bS7 x.cps.toList [] []
     simp at this ⊢
     exact aO0 (aO0 this)
    have e3:(strValues (l++[((⟨(List.drop i x.cps.toList).toArray⟩:Str),tk)])).length=l.length+1:=by simp [strValues]
    have hx':x.cps.size≤1000:=hx
    have:10000≤sizeLine:=by decide
    simp only [List.length_cons,List.length_nil] at e
    show (strValues (l++_)).length≤_
    rw [e3]
    lia
 ·refine ⟨[],0,0,false,s.toks,rfl,rfl,Nat.zero_le _,fun _=>⟨by simp [reSplit,toS],?_⟩,fun h=>nomatch h⟩
  simp [reMostMatches];lia
end
end Re
section
variable {C:Cfg} {A:Around} {Mu Mv:Addr→Bool} {s:Shared} {lev:Nat} {Γ:List Fn} {ns:List Str} {env:Env} {ρ:Ro}
theorem dZ6 (S:SOk C s):Re.PatAt s.heap C.PA:=by
 obtain ⟨src,fl,c,sl,h1,h2⟩:=C.pat
 exact ⟨_,_,src,fl,c,0,S.top.kin _ _ h1,⟨rfl,rfl⟩,rfl,S.top.kin _ _ h2,rfl⟩
theorem cF7 {x:Str} {t:Tok} (S:SOk C s) (M:MuOk C Mu s.heap) (hx:x.length≤1000) :
  PE C A Mu (call (.builtin "re.Pattern.split") [.ref C.PA,.str x t]) s (.lst ((reSplit x).map .str)):=by
 intro Q E k
 have P:=dZ6 S
 refine hid fun Gz zz=>?_
 obtain ⟨o,oc,src,fl,c,n,h1,h2,h3,h4,h5⟩:=id P.is
 refine zz ?_;clear zz Gz
 refine call_meetsIn Re.slot_re_split ⟨o,h1,h2.1⟩ Re.entry_re_split (Re.args_re_split _ _) (Re.meets_split _ _ _) ⟨P,hx,fun l tk e=>?_⟩
 refine k _ _ (.push _) (.lst (Fz.push M rfl) ?_)
 rw [← e]
 exact aZ0 l
theorem bQ3 {o y:Expr} {apos pos:Pos} {x:Str} (X:Cx C lev Γ ns A env ρ Mv s) (M:MuOk C Mu s.heap) (hp:(apos.endLine == pos.line)=true) (ho:aJ6 o)
  (hy:aA8 y=true) (h:PE C A noMu (eval o env) s .pat) (h1:∀ s',Go C s s'→Cx C lev Γ ns A env ρ Mv s'→PE C A noMu (eval y env) s' (.str x)) (hx:x.length≤1000) :
  PE C A Mu (eval (.Call (.Attribute o "split" apos) [y] [] pos) env) s (.lst ((reSplit x).map .str)):=by
 intro Q E k
 refine wpAny_Call_method1_late (aQ6 ho) hp (by rw [aA5 hy];rfl) (h.then X fun v s' g X' r=>?_)
 refine hid fun Gz zz=>?_
 obtain ⟨_,rfl⟩:=r.inv
 obtain ⟨o,oc,src,fl,c,n,e1,e2,e3,e4,e5⟩:=id (dZ6 X'.ok).is
 refine zz ?_;clear zz Gz
 refine ⟨"re.Pattern","re.Pattern.split",Re.plainAttrs_pat,Re.slot_re_split,Re.type_re_split,⟨o,e1,e2.1⟩,?_,?_⟩
 ·intro a e
  cases e
  exact ⟨o,e1,e2.2⟩
 ·refine callWith_builtin rfl (evalArgs_plain (spliced_cons ((h1 s' g X').then X' fun v s'' g' X'' r=>spliced_nil ?_)))
  obtain ⟨_,rfl⟩:=r.inv
  exact cF7 X''.ok (M.ext (g.trans g').ext) hx Q E fun v ar aE cB=>k v ar ((g.trans g').trans aE) cB
end
end Mine
end
section
open PySem PySem.W PyProof.Rows PySem.Calls PySem.Spec
set_option autoImplicit false
namespace Mine
structure Itr (C:Cfg) (A:Around) (I:Addr) (Mu:Addr→Bool) (ds:List D) (fp:List Addr) (P:Nat→Value→Prop) (St:Nat→Heap→Prop) (aa:Shared):Prop where
 walks:Walks C.prog C.w A I fp [I] ds.length P St
 fpOk:∀ b∈fp,b≠C.PT
 fpOld:∀ b∈fp,b=I∨(Mu b=false∧∃ o,aa.heap.get? b=some o)
 item:∀ i v,P i v→∃ d,ds[i]?=some d∧Rd C (Fz aa.heap Mu) v d
 cls:∀ i h,St i h→∃ o,h.get? I=some o∧o.cls≠.none∧o.cls≠.type "code"
 own:∀ i j (s':Shared) elts k pos v (Q:Unit→Shared→Prop) (E:Value→Shared→Prop),St i s'.heap→P j v→Q () s'→wpAny (model C.prog C.w) A (letOwnedTupleGo (.Tuple elts k pos) (.ref I) v) Q E s'
section
variable {C:Cfg} {lev:Nat} {Γ:List Fn} {ns:List Str} {A:Around} {env:Env} {ρ:Ro} {Mu Mv:Addr→Bool} {s s':Shared}
theorem cR0 {h:Heap} {a:Addr} {o:Obj} (t:C.tab h) (e:h.get? a=some o) (c:o.cls≠.none):a≠C.PT:=fun z=>by
 obtain ⟨o',q,n⟩:=C.tabNone h t
 rw [← z,e] at q;obtain rfl:=Option.some.inj q;exact c n
theorem aS3 {elts:List Expr} {k:Nat} {pos:Pos} {it v:Value} (h:∀ a,v≠.ref a):letOwnedTupleGo (.Tuple elts k pos) it v=pure ():=by
 cases it with
 | ref i =>
  cases v with
  | ref a=>exact absurd rfl (h a)
  | _=>rfl
 | _=>rfl
theorem dD7 (S:SOk C s) (hh:A.handled=none) {l:Addr} {vs:List Value} {n:Nat} {ds:List D} (M:MuOk C Mu s.heap) (e:Fz s.heap Mu l=some (aB2 vs n)) (r:RdL C (Fz s.heap Mu) vs ds)
  {Q:Value→Shared→Prop} {E:Value→Shared→Prop}
  (k:∀ I fp P St,s.heap.get? I=none→Itr C A I Mu ds fp P St s→∀ s',Go C s s'→s.toks≤s'.toks→St 0 s'.heap→Q (.ref I) s') :
  wpAny (model C.prog C.w) A (pyIter (.ref l)) Q E s:=by
 have e':s.heap.get? l=some (aB2 vs n):=VLe.heap _ _ e Value.noConfusion
 have hl:=aI6 e'
 have hne:l≠s.heap.objs.size:=Nat.ne_of_lt (Heap.lt_size e')
 have hn:s.heap.get? s.heap.objs.size=none:=by
  cases q:s.heap.get? s.heap.objs.size with
  | none=>rfl
  | some o=>exact absurd (Heap.lt_size q) (Nat.lt_irrefl _)
 have hlen:vs.toArray.size=ds.length:=r.length
 have W:=Walks.list (prog:=C.prog) (w:=C.w) hh s.heap.objs.size l hne vs.toArray
 rw [hlen] at W
 obtain ⟨oP,hP,_⟩:=C.tabNone _ S.tab
 refine wpAny_pyIter_list hl (k _ _ _ _ hn ⟨W,?_,?_,?_,?_,?_⟩ _ (.push _) (Nat.le_refl _) ⟨⟨_,Heap.get?_push_size _ rfl,rfl,rfl⟩,(aI6 (Heap.get?_push_of_some _ e'))⟩)
 ·intro b hb
  rcases List.mem_cons.mp hb with rfl | hb
  ·exact Nat.ne_of_gt (Heap.lt_size hP)
  ·rw [List.mem_singleton.mp hb];exact cR0 S.tab e' Value.noConfusion
 ·intro b hb
  rcases List.mem_cons.mp hb with rfl | hb
  ·exact .inl rfl
  ·rw [List.mem_singleton.mp hb]
   refine .inr ⟨?_,_,e'⟩
   dsimp only [Fz] at e
   cases q:Mu l with
   | false=>rfl
   | true=>rw [q,if_pos rfl] at e;exact nos e
 ·intro i v hv
  have hv':vs[i]?=some v:=by simpa using hv
  have hi:i < ds.length:=by rw [← r.length];exact (List.getElem?_eq_some_iff.mp hv').1
  obtain ⟨v',q,rv⟩:=r.get (List.getElem?_eq_getElem hi)
  rw [hv'] at q;obtain rfl:=Option.some.inj q
  exact ⟨_,List.getElem?_eq_getElem hi,rv⟩
 ·rintro i h ⟨⟨o,ho,hc,_⟩,_⟩
  exact ⟨o,ho,by rw [hc];simp,by rw [hc];simp⟩
 ·rintro i j s' elts kk pos v Q E ⟨hit,_⟩ _ hQ
  cases v with
  | ref a=>exact wpAny_letOwnedTupleGo_listiter hit hQ
  | _=>rw [aS3 (by intro a e;cases e)];exact wpAny_pure hQ
theorem bF1 (S:SOk C s) (hh:A.handled=none) {r:Addr} {a b c:Int} {t u v:Tok} {ds:List D} (hr:IsRange s.heap r a b c t u v) (hd:cA4 a b c=some ds)
  {Q:Value→Shared→Prop} {E:Value→Shared→Prop}
  (k:∀ I fp P St,s.heap.get? I=none→Itr C A I Mu ds fp P St s→∀ s',Go C s s'→s.toks≤s'.toks→St 0 s'.heap→Q (.ref I) s') :
  wpAny (model C.prog C.w) A (pyIter (.ref r)) Q E s:=by
 dsimp only [cA4] at hd
 split at hd
 ·rename_i hz
  refine hid fun Gz zz=>?_
  obtain ⟨h1,_,_,_,_,_,hsm⟩:=hz
  obtain rfl:=Option.some.inj hd
  have hn:s.heap.get? s.heap.objs.size=none:=by
   cases q:s.heap.get? s.heap.objs.size with
   | none=>rfl
   | some o=>exact absurd (Heap.lt_size q) (Nat.lt_irrefl _)
  obtain ⟨oP,hP,_⟩:=C.tabNone _ S.tab
  refine zz ?_;clear zz Gz
  have W:=Walks.range (prog:=C.prog) (w:=C.w) hh s.heap.objs.size a c (Builtin.Range.rangeSize a b c).toNat
  have hl:((List.range (Builtin.Range.rangeSize a b c).toNat).map fun (i:Nat)=>D.int (a+(i:Int)*c)).length=(Builtin.Range.rangeSize a b c).toNat:=by simp
  rw [← hl] at W
  refine wpAny_pyIter_range hr hsm (k _ _ _ _ hn ⟨W.bound,?_,?_,?_,?_,?_⟩ _ (.push _) (Nat.le_refl _) ?_)
  ·intro b hb
   rw [List.mem_singleton.mp hb];exact Nat.ne_of_gt (Heap.lt_size hP)
  ·intro b hb;exact .inl (List.mem_singleton.mp hb)
  ·rintro i v ⟨hi,tk,rfl⟩
   rw [hl] at hi
   exact ⟨.int (a+(i:Int)*c),by simp [hi],.int _ _⟩
  ·intro i h hi
   exact ⟨_,hi,by simp,by simp⟩
  ·rintro i j s' elts kk pos v Q E _ ⟨_,tk,rfl⟩ hQ
   rw [aS3 (by intro a e;cases e)];exact wpAny_pure hQ
  ·show IsRangeIter _ _ _ _ _
   rw [hl,Int.toNat_of_nonneg (by rw [rangeSize_toNat];exact bA0 rfl)]
   simpa using Heap.get?_push_size _ rfl
 ·exact nos hd
end
end Mine
end
section
open PySem PySem.W PyProof.Rows PySem.Calls PySem.Spec
set_option autoImplicit false
namespace Mine
theorem bW6 (n:Str) (h:Int) (k v:Value) (o:Obj):(Obj.putName n h k v o).cls=o.cls:=by
 rcases o with ⟨c,d,dt,sl⟩
 rw [Obj.putName_eq]
 cases dt<;>try rfl
 show (match (_:Option Nat) with | some i=>_ | none=>_:Obj).cls=c
 split<;>rfl
theorem bP5 {h:Heap} {a:Addr} {o o':Obj} (f:Obj→Obj) (e:h.get? a=some o) (e':(h.update a f).get? a=some o'):o'=f o:=by
 obtain ⟨e1,_⟩:=Heap.get?_some_iff.mp e
 obtain ⟨e2,_⟩:=Heap.get?_some_iff.mp e'
 cases h;simp only [Heap.update,Array.getElem?_modify,if_true] at e2;simp only at e1;rw [e1] at e2;obtain rfl:=Option.some.inj e2;rfl
open Sem in
theorem cQ6 {M:Model} {Γ:PySem.Ctx} {E:Value→Pos→Shared→Prop} {p:Pos} {s:Shared} {a:Addr} {m:Str→Option Value} (hn:s.heap.Ns a m) (name:Str) (v:Value) (Q:Unit→Pos→Shared→Prop)
  (hQ:∀ h',h'.Ns a (fun x=>if x=name then some v else m x)→Heap.SameBut a s.heap h'→(∀ o o',s.heap.get? a=some o→h'.get? a=some o'→o'.cls=o.cls) →
   Q () p { s with heap:=h',toks:=s.toks+1 }):wp M Γ (nsSet a name v) Q E p s:=by
 have h1:=Sem.wp_nsSet M Γ E p s hn name v (fun u p' s'=>∀ (x:∀ o o',s.heap.get? a=some o→s'.heap.get? a=some o'→o'.cls=o.cls),Q u p' s') fun h' a b x=>hQ h' a b x
 obtain ⟨o,es,ep,ho,hd,hk,hm⟩:=hn
 have hany:es.any (·.refKey)=false:=by
  rw [Array.any_eq_false'];intro e he;obtain ⟨n,t,h⟩:=hk e he;simp [DictEntry.refKey,h]
 simp only [nsSet,strHash,wp_bind',wp_cmd_ask,wp_pure',wp_cmd_mkText] at h1 ⊢
 rw [wp_loadPart_of M Γ E p { s with toks:=s.toks+1 } (o:=o) _ ho] at h1 ⊢
 simp only [hd,aRefKeyMayBeTheName_eq,aRefKeyMayBeTheNameByArray,hany,Bool.and_false,Bool.false_eq_true,if_false,wp_cmd_updatePart] at h1 ⊢
 obtain ⟨h2,h3⟩:=h1
 refine ⟨h2,h3 ?_⟩
 intro cm cC bX bn
 rw [bP5 _ bX bn]
 exact bW6 _ _ _ _ _
section
variable {M:Model} {A:Around} {E:Value→Shared→Prop} {s:Shared}
theorem bD5 {env:Env} {name:Str} {m} {v:Value} {Q:Unit→Shared→Prop} (hl:env.kindOf name=some .local) (hk:env.scope.kind=.function) (hn:s.heap.Ns env.locals m)
  (h:∀ h',h'.Ns env.locals (fun x=>if x=name then some v else m x)→Heap.SameBut env.locals s.heap h'→(∀ o o',s.heap.get? env.locals=some o→h'.get? env.locals=some o'→o'.cls=o.cls) →
   Q () { s with heap:=h',toks:=s.toks+1 }):wpAny M A (storeName env name v) Q E s:=by
 rw [storeName_local hl (by rw [hk];rfl)]
 exact fun Γ p _=>cQ6 hn name v _ h
theorem cF3 {env:Env} {name:Str} {c:Addr} {dW:Option Value} {v:Value} {Q:Unit→Shared→Prop} (hk:env.scope.kind=.function) (hl:env.kindOf name=some .cell)
  (hc:env.cells.lookup name=some c) (hv:s.heap.IsCell c dW)
  (h:∀ h',h'.IsCell c (some v)→Heap.SameBut c s.heap h'→(∀ o o',s.heap.get? c=some o→h'.get? c=some o'→o'.cls=o.cls)→Q () { s with heap:=h' }):wpAny M A (storeName env name v) Q E s:=by
 dsimp only [storeName]
 rw [hl,hk]
 refine wpAny_bind (m:=cellOf env name) (wpAny_cellOf hc ?_)
 obtain ⟨o,ho,hd⟩:=hv
 dsimp only [cellSet]
 refine wpAny_bind (wpAny_load ho ?_)
 rw [hd]
 exact wpAny_update ho (h _ ⟨{ o with data:=.cell v },Heap.get?_update_self _ ho rfl,rfl⟩ (Heap.SameBut.update ..) fun cm cC bX bn=>by rw [bP5 _ bX bn])
end
end Mine
end
section
open PySem PySem.W PyProof.Rows PySem.Calls PySem.Spec
set_option autoImplicit false
namespace Mine
theorem Go.but {C:Cfg} {aa s:Shared} {h':Heap} {tk:Nat} (g:Go C aa s) (W:Addr→Prop) (hW:∀ a,W a→aa.heap.get? a=none) (hT:∀ a o,W a→s.heap.get? a=some o→aL8 o)
  (k:∀ b o,¬ W b→s.heap.get? b=some o→h'.get? b=some o):Go C aa { s with heap:=h',toks:=tk } where
 ext:=fun b o e c=>k b o (fun w=>by rw [hW b w] at e;exact nos e) (g.ext b o e c)
 tab:=fun t=>C.tabMono _ _ (fun b o e c=>k b o (fun w=>by
  obtain ⟨h1,h2⟩:=hT b o w e
  rcases c with c | c
  ·exact h2 c
  ·exact h1 c) e) (g.tab t)
 os:=g.os
 gens:=g.gens
noncomputable def slot (env:Env) (x:Str):Addr:=if env.kindOf x=some .local then env.locals else (env.cells.lookup x).getD env.locals
noncomputable def aE7 (env:Env) (x:Str):Prop:=env.kindOf x=some .local∨(env.kindOf x=some .cell∧(env.cells.lookup x).isSome=true)
structure Stored (Mu:Addr→Bool) (env:Env) (x:Str) (v:Value) (h h':Heap):Prop where
 has:HasVar env h' x v
 others:∀ y u,y≠x→HasVar env h y u→HasVar env h' y u
 keep:∀ b o,b≠slot env x→h.get? b=some o→h'.get? b=some o
 turns:∀ o,h.get? (slot env x)=some o→aL8 o→∃ o',h'.get? (slot env x)=some o'∧aL8 o'
 frame:FrameIs Mu env h'
 inMu:Mu (slot env x)=true
theorem Ns.same {h:Heap} {a:Addr} {m m':Str→Option Value} (n:h.Ns a m) (n':h.Ns a m'):m=m':=by
 obtain ⟨o,es,ep,ho,hd,_,hm⟩:=n
 obtain ⟨o',es',ep',ho',hd',_,hm'⟩:=n'
 rw [ho] at ho';obtain rfl:=Option.some.inj ho'
 rw [hd] at hd';cases hd'
 funext x;rw [← hm,← hm']
section
variable {C:Cfg} {A:Around} {Mu:Addr→Bool} {s:Shared} {env:Env}
theorem aM1 {x:Str} {v:Value} {Q:Unit→Shared→Prop} {E:Value→Shared→Prop} (eo:EnvOk env) (F:FrameIs Mu env s.heap) (cs:aE7 env x)
  (h:∀ h' tk,Stored Mu env x v s.heap h'→s.toks≤tk→Q () { s with heap:=h',toks:=tk }):wpAny (model C.prog C.w) A (storeName env x v) Q E s:=by
 obtain ⟨m,hn⟩:=F.ns
 have turn:∀ {a:Addr} {h':Heap} {o':Obj},h'.get? a=some o'→(∀ o o',s.heap.get? a=some o→h'.get? a=some o'→o'.cls=o.cls)→∀ o,s.heap.get? a=some o→aL8 o→∃ o',h'.get? a=some o'∧aL8 o' :=
  fun {a h' o'} e' hc o e t=>⟨o',e',by unfold aL8;rw [hc o o' e e'];exact t⟩
 rcases cs with hl | ⟨hl,hs⟩
 ·refine bD5 hl eo.kind hn fun h' hn' hs' hc=>h h' _ ?_ (Nat.le_succ _)
  have sl:slot env x=env.locals:=if_pos hl
  have cell:∀ y c v',env.cells.lookup y=some c→s.heap.IsCell c v'→h'.IsCell c v':=fun y c v' q hv=>hv.sameBut hs' (eo.off y c q)
  refine ⟨.inl ⟨hl,_,hn',if_pos rfl⟩,?_,?_,?_,⟨⟨_,hn'⟩,?_,F.muL,F.muC⟩,by rw [sl];exact F.muL⟩
  ·rintro y u hy (⟨k,m',n',q⟩ | ⟨k,c,q,hv⟩)
   ·exact .inl ⟨k,_,hn',by rw [if_neg hy,Ns.same hn n'];exact q⟩
   ·exact .inr ⟨k,c,q,cell y c _ q hv⟩
  ·intro b o hb e
   rw [sl] at hb;exact hs'.extBut b o hb e
  ·rw [sl]
   refine hid fun Gz zz=>?_
   obtain ⟨o',_,_,e',_⟩:=id hn'
   refine zz ?_;clear zz Gz
   exact turn e' hc
  ·intro y c q
   obtain ⟨v',hv⟩:=F.cell y c q
   exact ⟨v',cell y c _ q hv⟩
 ·obtain ⟨c,hc⟩:=Option.isSome_iff_exists.mp hs
  obtain ⟨dW,dX⟩:=F.cell x c hc
  refine cF3 eo.kind hl hc dX fun h' hv' hs' hcl=>h h' _ ?_ (Nat.le_refl _)
  have nl:¬ env.kindOf x=some .local:=by rw [hl];decide
  have sl:slot env x=c:=by unfold slot;rw [if_neg nl,hc];rfl
  have cell:∀ y c' v',env.cells.lookup y=some c'→y≠x→s.heap.IsCell c' v'→h'.IsCell c' v':=fun y c' v' q hy hv=>hv.sameBut hs' fun z=>hy (eo.inj y x c' q (z ▸ hc))
  have hn':h'.Ns env.locals m:=hn.sameBut hs' (Ne.symm (eo.off x c hc))
  refine ⟨.inr ⟨.inl hl,c,hc,hv'⟩,?_,?_,?_,⟨⟨_,hn'⟩,?_,F.muL,F.muC⟩,by rw [sl];exact F.muC x c hc⟩
  ·rintro y u hy (⟨k,m',n',q⟩ | ⟨k,c',q,hv⟩)
   ·exact .inl ⟨k,m',n'.sameBut hs' (Ne.symm (eo.off x c hc)),q⟩
   ·exact .inr ⟨k,c',q,cell y c' _ q hy hv⟩
  ·intro b o hb e
   rw [sl] at hb;exact hs'.extBut b o hb e
  ·rw [sl]
   obtain ⟨o',e',_⟩:=id hv'
   exact turn e' hcl
  ·intro y c' q
   obtain ⟨v',hv⟩:=F.cell y c' q
   by_cases hy:y=x
   ·subst hy;rw [hc] at q;obtain rfl:=Option.some.inj q;exact ⟨_,hv'⟩
   ·exact ⟨v',cell y c' _ q hy hv⟩
theorem Stored.mu {x:Str} {v:Value} {h h':Heap} (S:Stored Mu env x v h h') (M:MuOk C Mu h):MuOk C Mu h':=fun a m=>by
 obtain ⟨c,o,e,t⟩:=M a m
 by_cases q:a=slot env x
 ·subst q;obtain ⟨o',e',t'⟩:=S.turns o e t;exact ⟨c,o',e',t'⟩
 ·exact ⟨c,o,S.keep a o q e,t⟩
theorem Stored.view {x:Str} {v:Value} {h h':Heap} (S:Stored Mu env x v h h'):VLe (Fz h Mu) (Fz h' Mu):=fun a o q _=>by
 unfold Fz at q ⊢
 by_cases m:Mu a=true
 ·rw [if_pos m] at q;exact nos q
 ·rw [if_neg m] at q ⊢
  exact S.keep a o (fun z=>m (z ▸ S.inMu)) q
end
end Mine
end
section
open PySem PySem.W PyProof.Rows PySem.Calls PySem.Spec
set_option autoImplicit false
namespace Mine
theorem aE6:∀ (names:List (Str × NameKind)) (n:Nat) (acc:List (Str × Addr)),cellsFrom n names acc=cellsFrom n names []++acc
 | [],_,_=>rfl
 | (x,k)::r,n,acc=>by
  dsimp only [cellsFrom]
  split
  ·rw [aE6 r (n+1) ((x,n)::acc),aE6 r (n+1) [(x,n)]];simp
  ·exact aE6 r n acc
noncomputable abbrev cU5:Obj:={ cls:=.type "cell",data:=.cell none }
theorem aJ1:∀ (names:List (Str × NameKind)) (h:Heap) (p:Str × Addr),p∈cellsFrom h.objs.size names []→h.objs.size≤p.2∧(pushCells h names).get? p.2=some cU5∧(p.1,NameKind.cell)∈names
 | [],_,_,m=>nomatch m
 | (x,k)::r,h,p,m=>by
  dsimp only [cellsFrom] at m
  dsimp only [pushCells]
  split at m
  ·rename_i hk
   rw [if_pos hk]
   rw [aE6] at m
   rcases List.mem_append.mp m with m | m
   ·have:=aJ1 r (h.push cU5) p (by rw [Heap.size_push];exact m)
    rw [Heap.size_push] at this
    exact ⟨bB7 this.1,this.2.1,.tail _ this.2.2⟩
   ·rw [List.mem_singleton.mp m]
    exact ⟨Nat.le_refl _,pushCells_keeps _ _ _ _ (Heap.get?_push_size _ rfl),by rw [eq_of_beq hk];exact .head _⟩
  ·rename_i hk
   rw [if_neg hk]
   have:=aJ1 r h p m
   exact ⟨this.1,this.2.1,.tail _ this.2.2⟩
theorem aL6:∀ (names:List (Str × NameKind)) (n:Nat) (x:Str),(x,NameKind.cell)∈names→∃ c,(x,c)∈cellsFrom n names []
 | (y,k)::r,n,x,m=>by
  dsimp only [cellsFrom]
  rcases List.mem_cons.mp m with e | m
  ·cases e
   rw [if_pos (by decide),aE6]
   exact ⟨n,List.mem_append.mpr (.inr (.head _))⟩
  ·split
   ·obtain ⟨c,h⟩:=aL6 r (n+1) x m
    rw [aE6]
    exact ⟨c,List.mem_append.mpr (.inl h)⟩
   ·exact aL6 r n x m
theorem aI4 {α:Type}:∀ {l:List (Str × α)} {x:Str} {c:α},(x,c)∈l→∃ c',l.lookup x=some c'
 | (y,v)::r,x,c,m=>by
  rw [List.lookup_cons]
  cases e:x == y with
  | true=>exact ⟨v,rfl⟩
  | false =>
   rcases List.mem_cons.mp m with z | z
   ·cases z;simp at e
   ·exact aI4 z
noncomputable def aM5 (cells:List (Str × Addr)):List (Str × NameKind)→List (Str × Addr)→List (Str × Addr)
 | [],acc=>acc
 | (n,k)::r,acc=>if k == .free then aM5 cells r ((n,(cells.lookup n).getD 0)::acc) else aM5 cells r acc
theorem aG5 (cells:List (Str × Addr)):∀ (names:List (Str × NameKind)) (acc:List (Str × Addr)) (x:Str) (c:Addr),
  (x,c)∈aM5 cells names acc↔(x,c)∈acc∨((x,NameKind.free)∈names∧c=(cells.lookup x).getD 0)
 | [],acc,x,c=>by (dsimp only [aM5];simp)
 | (n,k)::r,acc,x,c=>by
  dsimp only [aM5]
  split
  ·rename_i hk
   have hk':=eq_of_beq hk
   rw [aG5 cells r]
   subst hk'
   constructor
   ·rintro (m | ⟨m,e⟩)
    ·rcases List.mem_cons.mp m with z | z
     ·cases z;exact .inr ⟨.head _,rfl⟩
     ·exact .inl z
    ·exact .inr ⟨.tail _ m,e⟩
   ·rintro (m | ⟨m,e⟩)
    ·exact .inl (.tail _ m)
    ·rcases List.mem_cons.mp m with z | z
     ·cases z;subst e;exact .inl (.head _)
     ·exact .inr ⟨z,e⟩
  ·rename_i hk
   rw [aG5 cells r]
   constructor
   ·rintro (m | ⟨m,e⟩)
    ·exact .inl m
    ·exact .inr ⟨.tail _ m,e⟩
   ·rintro (m | ⟨m,e⟩)
    ·exact .inl m
    ·rcases List.mem_cons.mp m with z | z
     ·cases z;simp at hk
     ·exact .inr ⟨z,e⟩
theorem dK6 (env:Env):∀ (names:List (Str × NameKind)) (acc:List (Str × Addr)),(∀ x,(x,NameKind.free)∈names→(env.cells.lookup x).isSome=true) →
  (forIn names acc fun (p:Str × NameKind) (cs:List (Str × Addr))=>if (p.2 == NameKind.free)=true then (do let c ← cellOf env p.1;pure (ForInStep.yield ((p.1,c)::cs)):Sem _) else pure (ForInStep.yield cs))=(pure (aM5 env.cells names acc):Sem _)
 | [],acc,_=>rfl
 | (n,k)::r,acc,h=>by
  rw [List.forIn_cons]
  dsimp only [aM5]
  have ih:=fun acc=>dK6 env r acc fun x m=>h x (.tail _ m)
  by_cases hk:(k == NameKind.free)=true
  ·simp only [hk,if_true]
   have hk':=eq_of_beq hk
   obtain ⟨c,hc⟩:=Option.isSome_iff_exists.mp (h n (hk' ▸ .head _))
   have:cellOf env n=pure c:=by dsimp only [cellOf];rw [hc]
   rw [this,hc]
   simp only [pure_bind]
   exact ih _
  ·simp only [hk]
   simp only [Bool.false_eq_true,if_false,pure_bind]
   exact ih _
theorem eE5 {env:Env} {sc:Scope} (h:∀ x,(x,NameKind.free)∈sc.names→(env.cells.lookup x).isSome=true):closureFor sc env=pure (aM5 env.cells sc.names []):=by
 have:=dK6 env sc.names [] h
 dsimp only [closureFor]
 simp only [pure_bind,bind_pure] at this ⊢
 exact this
theorem bJ7 (f:Str→NameKind→NameKind):∀ (names:List (Str × NameKind)) (x:Str),(names.map fun p=>(p.1,f p.1 p.2)).lookup x=(names.lookup x).map (f x)
 | [],_=>rfl
 | (n,k)::r,x=>by
  rw [List.map_cons,List.lookup_cons,List.lookup_cons]
  cases e:x == n with
  | true=>rw [eq_of_beq e];rfl
  | false=>exact bJ7 f r x
theorem aP6 (sc:Scope) (env:Env) (x:Str):(relabel sc env).names.lookup x=(sc.names.lookup x).map fun k=>if (k == NameKind.free&&env.scope.kind == .function&&env.kindOf x == some .cell)=true then NameKind.cell else k:=by
 dsimp only [relabel]
 rw [← bJ7 (fun x k=>if (k == NameKind.free&&env.scope.kind == .function&&env.kindOf x == some .cell)=true then NameKind.cell else k)]
 congr 1
 show List.map _ sc.names=List.map _ sc.names
 congr 1
 funext p
 obtain ⟨n,k⟩:=p
 show (if _ then _ else _:Str × NameKind)=(n,if _ then _ else _)
 split<;>rfl
theorem dO3 (sc:Scope) (env:Env):aE2 sc env.scope=relabel sc env:=rfl
theorem aM9:∀ {l:List (Str × NameKind)} {x:Str} {k:NameKind},aH2 (l.map (·.1))=true→(x,k)∈l→l.lookup x=some k
 | (y,v)::r,x,k,hd,m=>by
  (rw [List.map_cons] at hd;dsimp only [aH2] at hd;rw [Bool.and_eq_true,Bool.not_eq_true'] at hd)
  rw [List.lookup_cons]
  rcases List.mem_cons.mp m with z | z
  ·cases z;simp
  ·have:(x == y)=false:=by
    cases e:x == y with
    | false=>rfl
    | true =>
     have e':=eq_of_beq e
     subst e'
     have:(r.map (·.1)).contains x=true:=by
      rw [List.contains_iff_mem];exact List.mem_map_of_mem (f:=(·.1)) z
     rw [this] at hd;cases hd.1
   rw [this]
   exact aM9 hd.2 z
theorem eO6 {a b:Nat} (h:a+1≤b) (h':b < a):False:=by lia
structure CompOk (sc outer:Scope) (targets:List Str):Prop where
 kind:sc.kind=.function
 dis:aH2 (sc.names.map (·.1))=true
 names:∀ x k,(x,k)∈sc.names→(k=.free∧aQ3 outer x=true)∨k=.globalImplicit∨((k=.local∨k=.cell)∧(x∈targets∨x=(".0":Str)))
 tgt:∀ x∈targets,sc.names.lookup x=some .local∨sc.names.lookup x=some .cell
theorem bT6 {sc outer:Scope} {targets:List Str} (h:aY3 sc outer targets=true):CompOk sc outer targets:=by
 simp only [aY3,Bool.and_eq_true,decide_eq_true_eq,List.all_eq_true,Bool.or_eq_true] at h
 obtain ⟨⟨⟨h1,h2⟩,h3⟩,h4⟩:=h
 refine ⟨h1,h2,fun x k m=>?_,h4⟩
 rcases h3 (x,k) m with (⟨a,b⟩ | a) | ⟨a,b⟩
 ·exact .inl ⟨a,b⟩
 ·exact .inr (.inl a)
 ·exact .inr (.inr ⟨a,by simpa using b⟩)
section
variable {C:Cfg} {lev:Nat} {Γ:List Fn} {ns:List Str} {A:Around} {env:Env} {ρ:Ro} {Mu Mv:Addr→Bool} {s s':Shared}
noncomputable def aR1 (L:Addr) (sc:Scope):List Addr:=L::(cellsFrom (L+1) sc.names []).map (·.2)
noncomputable def aD5 (sc:Scope) (L:Addr) (env:Env):Env:=compEnvC sc (cellsFrom (L+1) sc.names []++aM5 env.cells sc.names []) L env
theorem aL5 {outer:Env} {x:Str} (h:aQ3 outer.scope x=true):outer.kindOf x=some .cell∨outer.kindOf x=some .free:=by
 revert h
 dsimp only [aQ3,Env.kindOf]
 cases outer.scope.names.lookup x with
 | none=>exact fun h=>Bool.noConfusion h
 | some k =>
  cases k with
  | cell=>exact fun _=>.inl rfl
  | free=>exact fun _=>.inr rfl
  | _=>exact fun h=>Bool.noConfusion h
theorem dF8 {sc:Scope} {targets:List Str} {Mu:Addr→Bool} (K:CompOk sc env.scope targets) (eo:EnvOk env) (F:FrameIs Mu env s.heap) (M:MuOk C Mu s.heap) (hPT:∃ o,s.heap.get? C.PT=some o)
  {W:List Addr} (hW:∀ a∈aR1 s.heap.objs.size sc,a∈W) (hF:∀ a∈W,a∉aR1 s.heap.objs.size sc→a≠C.PT∧∃ o,s.heap.get? a=some o∧aL8 o)
  {Q:Env→Shared→Prop} {E:Value→Shared→Prop}
  (h:∀ h',(∀ b o,s.heap.get? b=some o→h'.get? b=some o)→(∀ a∈aR1 s.heap.objs.size sc,s.heap.get? a=none)→EnvOk (aD5 sc s.heap.objs.size env) →
   FrameIs (fun a=>Mu a || W.contains a) (aD5 sc s.heap.objs.size env) h'→MuOk C (fun a=>Mu a || W.contains a) h' →
   (∀ x∈targets,aE7 (aD5 sc s.heap.objs.size env) x∧slot (aD5 sc s.heap.objs.size env) x∈aR1 s.heap.objs.size sc) →
   (∀ cenv:Env,{ cenv with scope:=relabel sc env }=aD5 sc s.heap.objs.size env→cenv.locals=s.heap.objs.size→Q cenv { s with heap:=h' })) :
  wpAny (model C.prog C.w) A (newFunctionEnv sc env.globals (aM5 env.cells sc.names []) [] env.qual none .none (some env)) Q E s:=by
 simp only [newFunctionEnv,Option.isSome_some,if_true]
 refine wpAny_bind (wpAny_alloc ?_)
 refine wpAny_bind (wpAny_layCells _ (fun name kind cells=>by cases kind == NameKind.cell<;>simp) _ _ _ _ ?_)
 have hsz:(s.heap.push { cls:=.type "dict",data:=.dict #[] }).objs.size=s.heap.objs.size+1:=Heap.size_push ..
 show wpAny _ A _ _ _ { s with heap:=pushCells (s.heap.push { cls:=.type "dict",data:=.dict #[] }) sc.names }
 rw [show ({ s with heap:=s.heap.push { cls:=.type "dict",data:=.dict #[] } }:Shared).heap.objs.size=s.heap.objs.size+1 from hsz]
 rw [aE6]
 refine wpAny_bind (wpAny_pure (wpAny_pure ?_))
 have keep:∀ b o,s.heap.get? b=some o→(pushCells (s.heap.push { cls:=.type "dict",data:=.dict #[] }) sc.names).get? b=some o:=fun b o e=>pushCells_keeps _ _ b o (Heap.get?_push_of_some _ e)
 have fresh:∀ a,s.heap.objs.size≤a→s.heap.get? a=none:=fun a ha=>by
  cases e:s.heap.get? a with
  | none=>rfl
  | some o'=>exact absurd (Heap.lt_size e) (Nat.not_lt.mpr ha)
 have obj:=aJ1 sc.names (s.heap.push { cls:=.type "dict",data:=.dict #[] })
 rw [hsz] at obj
 have ok:=cellsFrom_ok sc.names (s.heap.push { cls:=.type "dict",data:=.dict #[] }) (s.heap.objs.size+1) [] ⟨fun _ _ hm=>(nomatch hm),List.Pairwise.nil⟩ (hsz ▸ Nat.le_refl _)
 rw [hsz] at ok
 have hown:∀ a∈aR1 s.heap.objs.size sc,s.heap.objs.size≤a:=fun a ha=>by
  rcases List.mem_cons.mp ha with rfl | ha
  ·exact Nat.le_refl _
  ·obtain ⟨p,hp,rfl⟩:=List.mem_map.mp ha
   have:=(obj p hp).1;exact bB7 this
 have kd:∀ x,(aD5 sc s.heap.objs.size env).kindOf x=(sc.names.lookup x).map fun k=>if (k == NameKind.free&&env.scope.kind == .function&&env.kindOf x == some .cell)=true then NameKind.cell else k:=fun x=>aP6 sc env x
 have free:∀ x,(x,NameKind.free)∈sc.names→∃ c,env.cells.lookup x=some c:=fun x m=>by
  rcases K.names x _ m with ⟨_,h⟩ | h | ⟨h | h,_⟩
  ·exact Option.isSome_iff_exists.mp (eo.has x (aL5 h))
  ·cases h
  ·cases h
  ·cases h
 have clo:∀ x c,(x,c)∈aM5 env.cells sc.names []→env.cells.lookup x=some c:=fun x c m=>by
  rcases (aG5 _ _ _ _ _).mp m with m | ⟨m,e⟩
  ·cases m
  ·obtain ⟨c',hc⟩:=free x m
   rw [hc] at e;subst e;exact hc
 have look:∀ x c,(aD5 sc s.heap.objs.size env).cells.lookup x=some c→(x,c)∈cellsFrom (s.heap.objs.size+1) sc.names []∨env.cells.lookup x=some c:=fun x c q=>by
  rcases List.mem_append.mp (mem_of_lookup q) with m | m
  ·exact .inl m
  ·exact .inr (clo x c m)
 have lt:∀ x c,env.cells.lookup x=some c→c < s.heap.objs.size:=fun x c q=>by
  obtain ⟨v,hv⟩:=F.cell x c q
  exact hv.lt
 have old:∀ x c v,env.cells.lookup x=some c→s.heap.IsCell c v→(pushCells (s.heap.push { cls:=.type "dict",data:=.dict #[] }) sc.names).IsCell c v:=fun x c v _ hv=>hv.keeps keep
 have tgtCell:∀ x,sc.names.lookup x=some .cell→∃ c,(aD5 sc s.heap.objs.size env).cells.lookup x=some c∧(x,c)∈cellsFrom (s.heap.objs.size+1) sc.names []:=fun x q=>by
  obtain ⟨c,m⟩:=aL6 sc.names (s.heap.objs.size+1) x (mem_of_lookup q)
  obtain ⟨c',q'⟩:=aI4 (List.mem_append.mpr (.inl m):(x,c)∈(aD5 sc s.heap.objs.size env).cells)
  refine ⟨c',q',?_⟩
  rcases List.mem_append.mp (mem_of_lookup q') with m' | m'
  ·exact m'
  ·rcases (aG5 _ _ _ _ _).mp m' with m' | ⟨m',_⟩
   ·cases m'
   ·rw [aM9 K.dis m'] at q;cases q
 refine h _ keep (fun a ha=>fresh a (hown a ha)) ⟨?_,eo.glob,eo.blt,?_,?_,?_⟩ ⟨⟨_,(Heap.Ns.new s.heap (.type "dict")).keeps (pushCells_keeps _ _)⟩,?_,?_,?_⟩ ?_ ?_ _ rfl rfl
 ·exact K.kind
 ·intro x y c qx qy
  rcases look x c qx with hx | hx<;>rcases look y c qy with hy | hy
  ·exact name_of_addr ok.apart hx hy
  ·exact (eO6 (obj _ hx).1 (lt _ _ hy)).elim
  ·exact (eO6 (obj _ hy).1 (lt _ _ hx)).elim
  ·exact eo.inj x y c hx hy
 ·intro x c q
  show c≠s.heap.objs.size
  rcases look x c q with hx | hx
  ·exact Nat.ne_of_gt (obj _ hx).1
  ·exact Nat.ne_of_lt (lt _ _ hx)
 ·intro x hk
  rw [kd] at hk
  have:sc.names.lookup x=some .cell∨sc.names.lookup x=some .free:=by
   cases q:sc.names.lookup x with
   | none=>rw [q] at hk;simp at hk
   | some k =>
    rw [q] at hk
    cases k<;>simp at hk<;>simp
  rcases this with q | q
  ·obtain ⟨c,hc,_⟩:=tgtCell x q
   rw [hc];rfl
  ·obtain ⟨c,hc⟩:=free x (mem_of_lookup q)
   exact Option.isSome_iff_exists.mpr (aI4 (l:=(aD5 sc s.heap.objs.size env).cells) (c:=(env.cells.lookup x).getD 0) (List.mem_append.mpr (.inr ((aG5 _ _ _ _ _).mpr (.inr ⟨mem_of_lookup q,rfl⟩)))))
 ·intro x c q
  rcases look x c q with hx | hx
  ·exact ⟨none,_,(obj _ hx).2.1,rfl⟩
  ·obtain ⟨v,hv⟩:=F.cell x c hx
   exact ⟨v,old x c v hx hv⟩
 ·show (Mu s.heap.objs.size || W.contains s.heap.objs.size)=true
  rw [List.contains_iff_mem.mpr (hW _ (.head _)),Bool.or_true]
 ·intro x c q
  rcases look x c q with hx | hx
  ·rw [List.contains_iff_mem.mpr (hW c (.tail _ (List.mem_map_of_mem (f:=(·.2)) hx))),Bool.or_true]
  ·rw [F.muC x c hx,Bool.true_or]
 ·intro a ha
  rw [Bool.or_eq_true] at ha
  rcases ha with ha | ha
  ·obtain ⟨c,o,e,t⟩:=M a ha
   exact ⟨c,o,keep _ _ e,t⟩
  ·have ha:=List.contains_iff_mem.mp ha
   by_cases q:a∈aR1 s.heap.objs.size sc
   ·obtain ⟨oP,hP⟩:=hPT
    refine ⟨fun z=>absurd (Heap.lt_size hP) (Nat.not_lt.mpr (z ▸ hown a q)),?_⟩
    rcases List.mem_cons.mp q with rfl | q
    ·exact ⟨_,pushCells_keeps _ _ _ _ (Heap.get?_push_size _ rfl),⟨by simp,by simp⟩⟩
    ·obtain ⟨p,hp,rfl⟩:=List.mem_map.mp q
     exact ⟨_,(obj p hp).2.1,⟨by simp,by simp⟩⟩
   ·obtain ⟨c,o,e,t⟩:=hF a ha q
    exact ⟨c,o,keep _ _ e,t⟩
 ·intro x hx
  rcases K.tgt x hx with q | q
  ·have k:(aD5 sc s.heap.objs.size env).kindOf x=some .local:=by rw [kd,q];rfl
   exact ⟨.inl k,by dsimp only [slot];rw [if_pos k];exact .head _⟩
  ·have k:(aD5 sc s.heap.objs.size env).kindOf x=some .cell:=by rw [kd,q];rfl
   obtain ⟨c,hc,m⟩:=tgtCell x q
   refine ⟨.inr ⟨k,by rw [hc];rfl⟩,?_⟩
   dsimp only [slot];rw [if_neg (by rw [k];decide),hc]
   exact .tail _ (List.mem_map_of_mem (f:=(·.2)) m)
theorem bN8 {sc:Scope} {targets:List Str} {L:Addr} (K:CompOk sc env.scope targets) {x:Str} (hv:bB6 (aD5 sc L env).scope x=true) (hx:x∉targets) (hz:x≠(".0":Str)) :
  sc.names.lookup x=some .free∧aQ3 env.scope x=true∧bB6 env.scope x=true:=by
 have hf:sc.names.lookup x=some .free∧aQ3 env.scope x=true:=by
  have hv':bB6 (relabel sc env) x=true:=hv
  dsimp only [bB6] at hv'
  rw [aP6] at hv'
  cases q:sc.names.lookup x with
  | none=>rw [q] at hv';simp at hv'
  | some k =>
   rcases K.names x k (mem_of_lookup q) with ⟨rfl,h2⟩ | rfl | ⟨_,h2⟩
   ·exact ⟨rfl,h2⟩
   ·rw [q] at hv';simp at hv'
   ·exact absurd h2 (fun z=>z.elim hx hz)
 refine ⟨hf.1,hf.2,?_⟩
 dsimp only [bB6]
 rcases aL5 hf.2 with z | z<;>(dsimp only [Env.kindOf] at z;rw [z])
theorem dF7 {sc:Scope} {targets:List Str} {L:Addr} (K:CompOk sc env.scope targets) (eo:EnvOk env) {x:Str} {v:Value} (hv:bB6 (aD5 sc L env).scope x=true) (hx:x∉targets) (hz:x≠(".0":Str))
  {h h':Heap} (H:HasVar env h x v) (hk:∀ c,env.cells.lookup x=some c→h.IsCell c (some v)→h'.IsCell c (some v)):HasVar (aD5 sc L env) h' x v:=by
 have kd:(aD5 sc L env).kindOf x=(sc.names.lookup x).map fun k=>if (k == NameKind.free&&env.scope.kind == .function&&env.kindOf x == some .cell)=true then NameKind.cell else k:=aP6 sc env x
 have hf:sc.names.lookup x=some NameKind.free∧aQ3 env.scope x=true:=⟨(bN8 K hv hx hz).1,(bN8 K hv hx hz).2.1⟩
 have kk:=aL5 hf.2
 rcases H with ⟨k,_⟩ | ⟨_,c,hc,hcell⟩
 ·rcases kk with z | z<;>rw [k] at z<;>cases z
 ·refine .inr ⟨?_,c,?_,hk c hc hcell⟩
  ·rw [kd,hf.1]
   rcases kk with z | z
   ·left;rw [z,eo.kind];rfl
   ·right;rw [z];simp
  ·obtain ⟨c',q⟩:=aI4 (l:=(aD5 sc L env).cells) (c:=(env.cells.lookup x).getD 0) (List.mem_append.mpr (.inr ((aG5 env.cells sc.names [] x _).mpr (.inr ⟨mem_of_lookup hf.1,rfl⟩))))
   rw [q]
   rcases List.mem_append.mp (mem_of_lookup q) with m | m
   ·have:=aJ1
    exfalso
    have mm:(x,NameKind.cell)∈sc.names:=by
     have key:∀ (names:List (Str × NameKind)) (n:Nat) (p:Str × Addr),p∈cellsFrom n names []→(p.1,NameKind.cell)∈names:=by
      intro names
      induction names with
      | nil=>intro n p m;nomatch m
      | cons y r ih =>
       obtain ⟨y,k⟩:=y
       intro n p m
       dsimp only [cellsFrom] at m
       split at m
       ·rename_i hk
        rw [aE6] at m
        rcases List.mem_append.mp m with m | m
        ·exact .tail _ (ih _ _ m)
        ·rw [List.mem_singleton.mp m,eq_of_beq hk];exact .head _
       ·exact .tail _ (ih _ _ m)
     exact key _ _ _ m
    rw [aM9 K.dis mm] at hf;cases hf.1
   ·rcases (aG5 _ _ _ _ _).mp m with m | ⟨_,e⟩
    ·cases m
    ·rw [e,hc];rfl
end
end Mine
end
section
open PySem PySem.W PyProof.Rows PySem.Calls PySem.Spec
set_option autoImplicit false
namespace Mine
theorem aL9 {h h':Heap} {Mu:Addr→Bool} (k:∀ b o,Mu b=false→h.get? b=some o→h'.get? b=some o):VLe (Fz h Mu) (Fz h' Mu):=fun a o q _=>by
 unfold Fz at q ⊢
 by_cases m:Mu a=true
 ·rw [if_pos m] at q;exact nos q
 ·rw [if_neg m] at q ⊢;exact k a o (by simpa using m) q
structure Put (C:Cfg) (Mu:Addr→Bool) (env:Env) (names:List Str) (h h':Heap):Prop where
 others:∀ y u,y∉names→HasVar env h y u→HasVar env h' y u
 keep:∀ b o,(∀ x∈names,b≠slot env x)→h.get? b=some o→h'.get? b=some o
 mu:MuOk C Mu h'
 frame:FrameIs Mu env h'
 view:VLe (Fz h Mu) (Fz h' Mu)
 inMu:∀ x∈names,Mu (slot env x)=true
noncomputable def cK7 (C:Cfg) (A:Around) (ns:List Str) (target:Expr) (names:List Str) (bnd:D→Option (List (Nat × D))):Prop :=
 ∀ (env:Env) (s:Shared) (Mu:Addr→Bool) (v:Value) (d:D) (bs:List (Nat × D)),EnvOk env→FrameIs Mu env s.heap→MuOk C Mu s.heap→(∀ x∈names,aE7 env x)→Rd C (Fz s.heap Mu) v d→bnd d=some bs →
  ∀ (Q:Unit→Shared→Prop) (E:Value→Shared→Prop),(∀ h' tk,Put C Mu env names s.heap h'→(∀ i d',(i,d')∈bs→∃ x u,ns[i]?=some x∧HasVar env h' x u∧Rd C (Fz h' Mu) u d')→(∀ x∈names,∃ i d',(i,d')∈bs∧ns[i]?=some x)→s.toks≤tk→Q () { s with heap:=h',toks:=tk }) →
   wpAny (model C.prog C.w) A (assign target env v) Q E s
section
variable {C:Cfg} {A:Around} {ns:List Str}
theorem cN2 {x:Str} {pos:Pos} {i:Nat} (hi:ns[i]?=some x):cK7 C A ns (.Name x pos) [x] (fun d=>some [(i,d)]):=by
 intro env s Mu v d bs eo F M cs r hb Q E k
 obtain rfl:=Option.some.inj hb
 refine wpAny_assign_Name (aM1 eo F (cs x (.head _)) fun h' tk S ht=>k h' tk ⟨?_,?_,S.mu M,S.frame,S.view,?_⟩ ?_ ?_ ht)
 ·intro y u hy;exact S.others y u (fun z=>hy (z ▸ .head _))
 ·intro b o hb;exact S.keep b o (hb x (.head _))
 ·intro y hy;rw [List.mem_singleton.mp hy];exact S.inMu
 ·intro j d' hj
  cases List.mem_singleton.mp hj
  exact ⟨x,v,hi,S.has,r.mono S.view⟩
 ·intro y hy
  rw [List.mem_singleton.mp hy]
  exact ⟨i,d,.head _,hi⟩
noncomputable def cK0 (i j:Nat):D→Option (List (Nat × D))
 | .tup [a,b]=>some [(i,a),(j,b)]
 | _=>none
theorem dH4 {i j:Nat} {d:D}:Al (cK0 i j d) fun bs=>∃ a b,d=.tup [a,b]∧bs=[(i,a),(j,b)]:=by
 cases d with
 | tup ds=>cases ds with
  | nil=>exact Al.none
  | cons a ds=>cases ds with
   | nil=>exact Al.none
   | cons b ds=>cases ds with
    | nil=>exact Al.some ⟨a,b,rfl,rfl⟩
    | cons _ _=>exact Al.none
 | _=>exact Al.none
theorem bZ4 {x y:Str} {pos p q:Pos} {n:Nat} {i j:Nat} (hh:A.handled=none) (hi:ns[i]?=some x) (hj:ns[j]?=some y) (hxy:x≠y):cK7 C A ns (.Tuple [.Name x p,.Name y q] n pos) [x,y] (cK0 i j):=by
 intro env s Mu v d bs eo F M cs r hb Q E k
 refine hid fun Gz zz=>?_
 obtain ⟨a,b,rfl,rfl⟩:=dH4 _ hb
 obtain ⟨t,vs,n',rfl,e,r⟩:=r.inv
 obtain ⟨va,vs,rfl,ra,r⟩:=r.inv
 obtain ⟨vb,vs,rfl,rb,r⟩:=r.inv
 refine zz ?_;clear zz Gz
 cases r.inv
 refine wpAny_assign_Tuple hh (bM8 (VLe.heap _ _ e Value.noConfusion)) rfl rfl fun av dY=>?_
 have cn:∀ b o,s.heap.get? b=some o→av.get? b=some o:=fun b o e=>dY b o (Nat.ne_of_lt (Heap.lt_size e)) e
 have cZ:Ext C.PT s.heap av:=.of_keep cn
 have dF:VLe (Fz s.heap Mu) (Fz av Mu):=.ext cZ
 show wpAny _ A (do holding [vb] (assign (.Name x p) env va);(do holding [] (assign (.Name y q) env vb);pure ())) Q E _
 refine wpAny_bind (wpAny_holding (wpAny_assign_Name (aM1 (s:={ s with heap:=av }) eo (F.ext M cZ) (cs x (.head _)) fun aL bx bT dZ=>?_)))
 refine wpAny_bind (wpAny_holding (wpAny_assign_Name (aM1 (s:={ s with heap:=aL,toks:=bx }) eo bT.frame (cs y (.tail _ (.head _))) fun a7 cD bC eg=>wpAny_pure ?_)))
 refine k a7 cD ⟨?_,?_,bC.mu (bT.mu (M.ext cZ)),bC.frame,(dF.trans bT.view).trans bC.view,?_⟩ ?_ ?_ (aA9 dZ eg)
 ·intro z u hz H
  exact bC.others z u (fun w=>hz (w ▸ .tail _ (.head _))) (bT.others z u (fun w=>hz (w ▸ .head _)) (H.ext M F cZ))
 ·intro c o hc e
  exact bC.keep c o (hc y (.tail _ (.head _))) (bT.keep c o (hc x (.head _)) (cn c o e))
 ·intro z hz
  rcases List.mem_cons.mp hz with rfl | hz
  ·exact bT.inMu
  ·rw [List.mem_singleton.mp hz];exact bC.inMu
 ·intro k' d' hk
  rcases List.mem_cons.mp hk with z | hk
  ·cases z
   exact ⟨x,va,hi,bC.others _ _ hxy bT.has,ra.mono ((dF.trans bT.view).trans bC.view)⟩
  ·cases List.mem_singleton.mp hk
   exact ⟨y,vb,hj,bC.has,rb.mono ((dF.trans bT.view).trans bC.view)⟩
 ·intro z hz
  rcases List.mem_cons.mp hz with rfl | hz
  ·exact ⟨i,a,.head _,hi⟩
  ·rw [List.mem_singleton.mp hz]
   exact ⟨j,b,.tail _ (.head _),hj⟩
end
section
variable {prog:Program} {w:World} {A:Around} {R:Result→Shared→Prop} {s:Shared}
theorem bT7 {elt target iter:Expr} {ifs:List Expr} {scope:Scope} {pos:Pos} {it acc:Value} {env:Env} (I:Nat→Shared→Prop)
  (turn:∀ n s,I n s→∀ (E:Value→Shared→Prop) (K0:Option Value→Shared→Prop) (K2:Bool→Shared→Prop) (K5:Shared→Prop),(∀ aa,R (.ok .next) aa→K0 none aa) →
   (∀ v aa,wpAny (model prog w) A (letOwnedTupleGo target it v) (fun _ bz=>wpAny (model prog w) A (assign target env v) (fun _ ai =>
     wpAny (model prog w) A (forIn ifs true fun c r=>if r=true then do let ok ← isTrue c env (eval c env);pure (ForInStep.yield ok) else pure (ForInStep.yield r)) K2 E ai) E bz) E aa→K0 (some v) aa) →
   (∀ ar,K5 ar→K2 false ar)→(∀ ar,wpAny (model prog w) A (eval elt env) (fun x aU=>wpAny (model prog w) A (call (.builtin "list.append") [acc,x]) (fun _ bU=>K5 bU) E aU) E ar→K2 true ar) →
   (∀ m s',m < n→I m s'→K5 s')→wpAny (model prog w) A (pyNext it) K0 E s)
  (n:Nat) (h:I n s) :
  codeAny (model prog w) A (.compLoop (.ListComp elt [⟨target,iter,ifs,0⟩] scope pos) 0 it acc env) R s:=by
 refine codeAny_loop rfl I (fun n s hI=>?_) n h
 show wpAny _ A ((compTurn (.ListComp elt [⟨target,iter,ifs,0⟩] scope pos) 0 it acc env).onRaise (fun x=>do noteFrame x env;theTreesLotGoes x)) _ _ s
 refine wpAny_noted ?_
 rw [compTurn_list]
 refine wpAny_bind (wpAny_standAt (wpAny_bind (turn n s hI _ _ _ (fun s=>∃ m,m < n∧I m s) (fun aa av=>wpAny_pure av) (fun v aa av=>wpAny_bind (wpAny_mono av (fun _ bz bu=>wpAny_bind (wpAny_mono bu (fun _ ai aL=>wpAny_bind aL) fun _ _ h'=>h')) fun _ _ h'=>h')) ?_ ?_ fun m s' a b=>⟨m,a,b⟩)))
 ·exact fun ar a7=>wpAny_pure ⟨rfl,a7⟩
 ·exact fun ar a7=>wpAny_bind (wpAny_bind (wpAny_mono a7 (fun x aU bg=>wpAny_bind (wpAny_mono bg (fun _ bU bA=>wpAny_pure (wpAny_pure ⟨rfl,bA⟩)) fun _ _ h'=>h')) fun _ _ h'=>h'))
end
end Mine
end
section
open PySem PySem.W PyProof.Rows PySem.Calls PySem.Spec
set_option autoImplicit false
namespace Mine
noncomputable def cT4 (bs:List (Nat × D)) (ρ:Ro):Ro:=bs.foldl (fun r p=>(p.1,.dat p.2)::r) ρ
theorem bK1 {i:Nat} {lv:LV}:∀ (bs:List (Nat × D)) (ρ:Ro),(cT4 bs ρ).lookup i=some lv→(∃ d',lv=.dat d'∧(i,d')∈bs)∨((∀ d',(i,d')∉bs)∧ρ.lookup i=some lv)
 | [],ρ,h=>.inr ⟨fun _ m=>(List.not_mem_nil m).elim,h⟩
 | (j,d)::bs,ρ,h=>by
  rcases bK1 bs _ h with ⟨d',e,m⟩ | ⟨m,q⟩
  ·exact .inl ⟨d',e,.tail _ m⟩
  ·rw [List.lookup_cons] at q
   cases e:i == j with
   | true =>
    rw [e] at q;obtain rfl:=Option.some.inj q
    rw [eq_of_beq e]
    exact .inl ⟨d,rfl,.head _⟩
   | false =>
    rw [e] at q
    refine .inr ⟨fun d' z=>?_,q⟩
    rcases List.mem_cons.mp z with w | w
    ·cases w;simp at e
    ·exact m d' w
theorem bE5 {ns:List Str} (h:ns.Nodup) {i j:Nat} {x:Str} (hi:ns[i]?=some x) (hj:ns[j]?=some x):i=j:=by
 obtain ⟨h1,e1⟩:=List.getElem?_eq_some_iff.mp hi
 obtain ⟨h2,e2⟩:=List.getElem?_eq_some_iff.mp hj
 exact (List.getElem_inj h).mp (e1.trans e2.symm)
theorem aP8 (f:Nat→Bool):∀ (l:Ro) (k:Nat),(l.filter fun p=>f p.1).lookup k=if f k=true then l.lookup k else none
 | [],k=>by simp
 | (j,v)::r,k=>by
  have ih:=aP8 f r k
  rw [List.filter_cons]
  by_cases h:f j=true
  ·simp only [h,if_true,List.lookup_cons]
   cases e:k == j with
   | true=>rw [eq_of_beq e,if_pos h]
   | false=>exact ih
  ·simp only [h,List.lookup_cons]
   cases e:k == j with
   | true =>
    rw [eq_of_beq e] at ih ⊢
    simp only [if_neg h] at ih ⊢
    exact ih
   | false=>exact ih
theorem cU2 {ρ:Ro} {i:Nat} {lv:LV} (h:(aP4 ρ).lookup i=some lv):ρ.lookup i=some lv∧∃ d,lv=.dat d:=by
 unfold aP4 at h
 rw [aP8 (fun k=>dD8 (ρ.lookup k))] at h
 split at h
 ·rename_i q
  rw [h] at q
  cases lv with
  | dat d=>exact ⟨h,d,rfl⟩
  | own d=>exact noB q
 ·exact nos h
theorem bY1 {f:Ro→Option (Option D)} {b:D→Option Ro} {d:D} {ds rs:List D} (h:aQ9 f b (d::ds)=some rs) :
  ∃ ρ r rs',b d=some ρ∧f ρ=some r∧aQ9 f b ds=some rs'∧rs=r.toList++rs':=by
 refine hid fun Gz zz=>?_
 obtain ⟨ρ,h1,h⟩:=Option.bind_eq_some_iff.mp h
 obtain ⟨r,h2,h⟩:=Option.bind_eq_some_iff.mp h
 obtain ⟨rs',h3,e⟩:=Option.map_eq_some_iff.mp h
 refine zz ?_;clear zz Gz
 exact ⟨ρ,r,rs',h1,h2,h3,by rw [← e];cases r<;>rfl⟩
section
variable {C:Cfg} {lev:Nat} {Γ:List Fn} {ns:List Str} {A:Around} {env cenv:Env} {ρ:Ro} {Mu Mv:Addr→Bool} {s s':Shared}
noncomputable def eQ4 (C:Cfg) (ns names:List Str) (ρ:Ro) (cenv:Env) (Mu:Addr→Bool) (h:Heap):Prop :=
 ∀ i x lv,ns[i]?=some x→ρ.lookup i=some lv→bB6 cenv.scope x=true→x∉names→∃ d v,lv=.dat d∧HasVar cenv h x v∧Rd C (Fz h Mu) v d
structure CInv (C:Cfg) (ns names:List Str) (ρ:Ro) (cenv:Env) (Mu:Addr→Bool) (D:Addr) (St:Nat→Heap→Prop) (aa:Shared) (i:Nat) (rs:List Mine.D) (s:Shared):Prop where
 go:Go C aa s
 tk:aa.toks≤s.toks
 st:St i s.heap
 acc:∃ ys,s.heap.PlainList D ys∧ys.size≤i∧RdL C (Fz s.heap Mu) ys.toList rs
 frame:FrameIs Mu cenv s.heap
 mu:MuOk C Mu s.heap
 held:eQ4 C ns names ρ cenv Mu s.heap
theorem cU3 {elt target iter:Expr} {ifs:List Expr} {sc:Scope} {pos:Pos} {names:List Str} {bnd:D→Option (List (Nat × D))} {I D:Addr} {fp:List Addr} {P:Nat→Value→Prop} {St:Nat→Heap→Prop}
  {W:List Addr} {ft:Ro→Option Bool} {fe:Ro→Option Mine.D} {ds rs:List Mine.D} {aa:Shared} {R:Result→Shared→Prop}
  (fns:FnsOk C lev Γ) (kit:Kit C) (room:RoomL lev A) (ok:SOk C aa) (tok:0 < aa.toks) (nd:ns.Nodup∧(".0":Str)∉ns) (eo:EnvOk cenv)
  (tks:cK7 C A ns target names bnd) (cs:∀ x∈names,aE7 cenv x∧slot cenv x∈W)
  (own:∀ i j (s':Shared) v (Q:Unit→Shared→Prop) (E:Value→Shared→Prop),St i s'.heap→P j v→Q () s'→wpAny (model C.prog C.w) A (letOwnedTupleGo target (.ref I) v) Q E s')
  (itr:Itr C A I Mu ds fp P St aa) (hW:∀ a∈W,aa.heap.get? a=none) (hD:D∈W) (hI:I∈W) (hDI:D≠I) (hLI:cenv.locals≠I) (hLD:cenv.locals≠D)
  (hcI:∀ x c,cenv.cells.lookup x=some c→c≠I∧c≠D) (hsI:∀ x∈names,slot cenv x≠I∧slot cenv x≠D) (hlen:ds.length≤lim)
  (hMu:Mv=fun a=>Mu a || W.contains a)
  (htest:∀ ao s b,Cx C lev Γ ns A cenv ao Mv s→ft ao=some b→∀ (Q:Bool→Shared→Prop) (E:Value→Shared→Prop),(∀ s',Go C s s'→s.toks≤s'.toks→Q b s') →
   wpAny (model C.prog C.w) A (forIn ifs true fun c r=>if r=true then do let ok ← isTrue c cenv (eval c cenv);pure (ForInStep.yield ok) else pure (ForInStep.yield r)) Q E s)
  (helt:∀ ao s d,Cx C lev Γ ns A cenv ao Mv s→fe ao=some d→PE C A Mv (eval elt cenv) s d)
  (hrs:aQ9 (fun ao=>(ft ao).bind fun c=>if c=true then (fe ao).map some else some none) (fun d=>(bnd d).map fun bs=>cT4 bs ρ) ds=some rs)
  (hs:CInv C ns names ρ cenv Mv D St aa 0 [] s)
  (hR:∀ s' ys,Go C aa s'→aa.toks≤s'.toks→s'.heap.PlainList D ys→RdL C (Fz s'.heap Mv) ys.toList rs→(∃ m,s'.heap.Ns cenv.locals m)→(∃ o,s'.heap.get? cenv.locals=some o∧aL8 o)→R (.ok .next) s') :
  codeAny (model C.prog C.w) A (.compLoop (.ListComp elt [⟨target,iter,ifs,0⟩] sc pos) 0 (.ref I) (.ref D) cenv) R s:=by
 have mI:Mv I=true:=by rw [hMu];simp [hI]
 have mD:Mv D=true:=by rw [hMu];simp [hD]
 have c4:∀ {s':Shared},Go C aa s'→VLe (Fz aa.heap Mu) (Fz s'.heap Mv):=fun {s'} g a o q c=>by
  unfold Fz at q ⊢
  by_cases m:Mu a=true
  ·rw [if_pos m] at q;exact nos q
  ·rw [if_neg m] at q
   have nW:a∉W:=fun w=>nos ((hW a w).symm.trans q)
   rw [if_neg (by rw [hMu];simp [m,nW])]
   exact g.ext a o q (.inl c)
 refine bT7 (fun n s'=>∃ i bI cE,i≤ds.length∧n=ds.length+1 - i ∧
   aQ9 (fun ao=>(ft ao).bind fun c=>if c=true then (fe ao).map some else some none) (fun d=>(bnd d).map fun bs=>cT4 bs ρ) (ds.drop i)=some cE∧rs=bI++cE ∧
   CInv C ns names ρ cenv Mv D St aa i bI s') ?_ (ds.length+1) ⟨0,[],rs,Nat.zero_le _,rfl,by simpa using hrs,rfl,hs⟩
 intro n s' hI E K0 K2 K5 hnn hs hf ht hK
 refine hid fun Gz zz=>?_
 obtain ⟨i,bI,cE,hi,rfl,hgo,rfl,V⟩:=hI
 have step:∀ {h':Heap} {tk:Nat},(∀ b o,b∉[I]→s'.heap.get? b=some o→h'.get? b=some o)→Go C aa { s' with heap:=h',toks:=tk }:=fun {h' tk} k =>
  V.go.but (fun a=>a=I) (fun a e=>e ▸ hW I hI) (fun a o e q=>by obtain ⟨_,o',q',t⟩:=V.mu I mI;rw [e,q'] at q;exact Option.some.inj q ▸ t) fun b o hb e=>k b o (by simpa using hb) e
 have keepD:∀ {h':Heap},(∀ b o,b∉[I]→s'.heap.get? b=some o→h'.get? b=some o)→∀ {ys},s'.heap.PlainList D ys→h'.PlainList D ys:=fun k _ h=>h.at fun o e=>k D o (by simpa using hDI) e
 have viewI:∀ {h':Heap},(∀ b o,b∉[I]→s'.heap.get? b=some o→h'.get? b=some o)→VLe (Fz s'.heap Mv) (Fz h' Mv):=fun k=>aL9 fun b o m e=>k b o (by
  intro z;rw [List.mem_singleton.mp z] at m;exact noB (m.symm.trans mI)) e
 have keepL:∀ {h':Heap},(∀ b o,b∉[I]→s'.heap.get? b=some o→h'.get? b=some o)→∀ {m},s'.heap.Ns cenv.locals m→h'.Ns cenv.locals m:=fun k _ h=>h.at' fun o e=>k _ o (by simpa using hLI) e
 have keepC:∀ {h':Heap},(∀ b o,b∉[I]→s'.heap.get? b=some o→h'.get? b=some o)→∀ {x c v},cenv.cells.lookup x=some c→s'.heap.IsCell c v→h'.IsCell c v:=fun k x c v q ⟨o,e,d⟩=>⟨o,k c o (by simpa using (hcI x c q).1) e,d⟩
 obtain ⟨ys,hys,hysz,hyr⟩:=V.acc
 refine zz ?_;clear zz Gz
 by_cases hlt:i < ds.length
 ·refine wpAny_with_toks (n:=aa.toks) V.tk (itr.walks.item i _ _ _ hlt V.st fun v av bJ hPv bd a8 be=>?_)
  refine hid fun Gz zz=>?_
  obtain ⟨d,hd,rd⟩:=itr.item i v hPv
  have hdrop:ds.drop i=d::ds.drop (i+1):=by
   rw [List.drop_eq_getElem_cons hlt]
   rw [Option.some.inj ((List.getElem?_eq_getElem hlt).symm.trans hd)]
  rw [hdrop] at hgo
  obtain ⟨ao,r,rs',hb,hff,hgo',rfl⟩:=bY1 hgo
  obtain ⟨bs,hbs,rfl⟩:=Option.map_eq_some_iff.mp hb
  refine zz ?_;clear zz Gz
  have aj:Go C aa { s' with heap:=av,toks:=bJ }:=step a8
  have aD:FrameIs Mv cenv av:=by
   obtain ⟨m,hm⟩:=V.frame.ns
   exact ⟨⟨m,keepL a8 hm⟩,fun x c q=>let ⟨v,hv⟩:=V.frame.cell x c q;⟨v,keepC a8 q hv⟩,V.frame.muL,V.frame.muC⟩
  have c6:MuOk C Mv av:=fun a m=>by
   obtain ⟨c,o,e,t⟩:=V.mu a m
   by_cases q:a=I
   ·obtain ⟨o',e',t'⟩:=itr.cls _ _ bd
    exact ⟨c,o',q ▸ e',t'⟩
   ·exact ⟨c,o,a8 a o (by simpa using q) e,t⟩
  refine hs _ _ (own _ _ _ _ _ _ bd hPv ?_)
  refine tks cenv _ Mv v d bs eo aD c6 (fun x hx=>(cs x hx).1) (rd.mono (c4 aj)) hbs _ _ fun aL bx pt hbd hnm bD=>?_
  have al:Go C aa { s' with heap:=aL,toks:=bx }:=aj.but (fun a=>∃ x∈names,a=slot cenv x) (fun a ⟨x,hx,e⟩=>hW a (e ▸ (cs x hx).2))
   (fun a o ⟨x,hx,e⟩ q=>by obtain ⟨_,o',q',t⟩:=c6 a (e ▸ pt.inMu x hx);rw [q'] at q;exact Option.some.inj q ▸ t) fun b o hb e=>pt.keep b o (fun x hx e=>hb ⟨x,hx,e⟩) e
  have bH:VLe (Fz s'.heap Mv) (Fz aL Mv):=(viewI a8).trans pt.view
  have bc:Cx C lev Γ ns A cenv (cT4 bs ρ) Mv { s' with heap:=aL,toks:=bx }:=by
   refine ⟨fns,kit,room,ok.go al,aM7 tok (aA9 be bD),eo,pt.mu,pt.frame,nd,fun _=>0,?_⟩
   intro k x lv hx hl hv
   rcases bK1 bs ρ hl with ⟨d',rfl,m⟩ | ⟨m,q⟩
   ·obtain ⟨y,u,hy,hu,ru⟩:=hbd k d' m
    exact Option.some.inj (hy.symm.trans hx) ▸ ⟨u,hu,ru⟩
   ·have hx':x∉names:=fun z=>by
     obtain ⟨j,d',hj,hjx⟩:=hnm x z
     rw [bE5 nd.1 hjx hx] at hj
     exact m _ hj
    refine hid fun Gz zz=>?_
    obtain ⟨d',u,rfl,hu,ru⟩:=V.held k x lv hx q hv hx'
    refine zz ?_;clear zz Gz
    have cF:HasVar cenv av x u:=by
     rcases hu with ⟨kk,m',n',q'⟩ | ⟨kk,c,hc,hv'⟩
     ·exact .inl ⟨kk,m',keepL a8 n',q'⟩
     ·exact .inr ⟨kk,c,hc,keepC a8 hc hv'⟩
    exact ⟨u,pt.others x u hx' cF,ru.mono bH⟩
  have bB:St (i+1) aL:=itr.walks.frame _ _ _ bd fun b hb o e=>pt.keep b o (fun x hx e'=>by
   rcases itr.fpOld b hb with z | ⟨_,o',q⟩
   ·exact (hsI x hx).1 (e'.symm.trans z)
   ·exact nos ((hW b (e' ▸ (cs x hx).2)).symm.trans q)) e
  have cG:aL.PlainList D ys:=(keepD a8 hys).at fun o e=>pt.keep D o (fun x hx e'=>(hsI x hx).2 e'.symm) e
  obtain ⟨b,hft,hff⟩:=Option.bind_eq_some_iff.mp hff
  have c8:eQ4 C ns names ρ cenv Mv aL:=fun k x lv hx q hv hx'=>by
   obtain ⟨d',u,rfl,hu,ru⟩:=V.held k x lv hx q hv hx'
   have cF:HasVar cenv av x u:=by
    rcases hu with ⟨kk,m',n',q'⟩ | ⟨kk,c,hc,hv'⟩
    ·exact .inl ⟨kk,m',keepL a8 n',q'⟩
    ·exact .inr ⟨kk,c,hc,keepC a8 hc hv'⟩
   exact ⟨d',u,rfl,pt.others x u hx' cF,ru.mono bH⟩
  have up:∀ {ar:Shared},Go C { s' with heap:=aL,toks:=bx } ar→aa.toks≤ar.toks→CInv C ns names ρ cenv Mv D St aa (i+1) bI ar:=fun {ar} aE bP=>by
   have ne:∀ b,b∈fp→b≠C.PT:=itr.fpOk
   refine ⟨al.trans aE,bP,itr.walks.frame _ _ _ bB fun b hb o e=>aE.ext b o e (.inr (ne b hb)),⟨ys,cG.at fun o e=>aE.ext D o e (.inr (c6 D mD).1),Nat.le_succ_of_le hysz,(hyr.mono bH).go aE⟩,pt.frame.ext pt.mu aE.ext,pt.mu.ext aE.ext,?_⟩
   intro k x lv hx q hv hx'
   obtain ⟨d',u,e,hu,ru⟩:=c8 k x lv hx q hv hx'
   exact ⟨d',u,e,hu.ext pt.mu pt.frame aE.ext,ru.go aE⟩
  refine htest _ _ b bc hft _ _ fun ar aE bP=>?_
  have dj:aa.toks≤ar.toks:=aA9 (aA9 be bD) bP
  have eT:=up aE dj
  cases b with
  | false =>
   obtain rfl:=Option.some.inj hff
   exact hf _ (hK _ _ (cO8 hlt) ⟨i+1,bI,rs',hlt,rfl,hgo',by simp,eT⟩)
  | true =>
   obtain ⟨x,hx,rfl⟩:=Option.map_eq_some_iff.mp hff
   refine ht _ ((helt _ ar x (bc.go aE bP) hx).toks _ _ fun u aU bK dG ru=>?_)
   have bV:=up (aE.trans bK) (aA9 dj dG)
   have cq:=aE.trans bK
   have hys':aU.heap.PlainList D ys:=cG.at fun o e=>cq.ext D o e (.inr (c6 D mD).1)
   have hyr':RdL C (Fz aU.heap Mv) ys.toList bI:=(hyr.mono bH).go cq
   have hsl:ys.size≤sizeLine:=aA9 hysz (aA9 hi (aA9 hlen (by decide)))
   refine wpAny_list_append_plain (hsz:=hsl) hys' fun bA dm bS=>?_
   refine hK _ _ (cO8 hlt) ⟨i+1,bI++[x],rs',hlt,rfl,hgo',by simp,?_⟩
   have cr:VLe (Fz aU.heap Mv) (Fz bA Mv):=aL9 fun b o m e=>bS.extBut b o (fun z=>by rw [z] at m;exact noB (m.symm.trans mD)) e
   have bY:∀ {m},aU.heap.Ns cenv.locals m→bA.Ns cenv.locals m:=fun h=>h.sameBut bS hLD
   have bZ:∀ {x c v},cenv.cells.lookup x=some c→aU.heap.IsCell c v→bA.IsCell c v:=fun q h=>h.sameBut bS (hcI _ _ q).2
   refine ⟨bV.go.but (fun a=>a=D) (fun a e=>e ▸ hW D hD) (fun a o e q=>by obtain ⟨n,e'⟩:=hys';rw [e,e'] at q;obtain rfl:=Option.some.inj q;exact ⟨by simp,by simp⟩) fun b o hb e=>bS.extBut b o hb e,
    bV.tk,itr.walks.frame _ _ _ bV.st fun b hb o e=>bS.extBut b o (fun z=>?_) e,⟨_,dm,?_,?_⟩,?_,?_,?_⟩
   ·rcases itr.fpOld b hb with q | ⟨_,o',q⟩
    ·exact hDI (z ▸ q)
    ·exact nos ((hW b (z ▸ hD)).symm.trans q)
   ·rw [Array.size_push];exact Nat.succ_le_succ hysz
   ·have:=(hyr'.append (.one ru)).mono cr
    simpa using this
   ·obtain ⟨m,hm⟩:=bV.frame.ns
    exact ⟨⟨m,bY hm⟩,fun x c q=>let ⟨v,hv⟩:=bV.frame.cell x c q;⟨v,bZ q hv⟩,bV.frame.muL,bV.frame.muC⟩
   ·intro a m
    obtain ⟨c,o,e,t⟩:=bV.mu a m
    by_cases q:a=D
    ·obtain ⟨n,e'⟩:=dm
     exact ⟨c,_,q ▸ e',⟨by simp,by simp⟩⟩
    ·exact ⟨c,o,bS.extBut a o q e,t⟩
   ·intro k x lv hx q hv hx'
    refine hid fun Gz zz=>?_
    obtain ⟨d',u,e,hu,ru'⟩:=bV.held k x lv hx q hv hx'
    refine zz ?_;clear zz Gz
    refine ⟨d',u,e,?_,ru'.mono cr⟩
    refine hid fun Gz zz=>?_
    rcases hu with ⟨kk,m',n',q'⟩ | ⟨kk,c,hc,hv'⟩
    ·refine zz ?_;clear zz Gz
     exact .inl ⟨kk,m',bY n',q'⟩
    ·refine zz ?_;clear zz Gz
     exact .inr ⟨kk,c,hc,bZ hc hv'⟩
 ·have hie:i=ds.length:=cO7 hi hlt
  refine wpAny_with_toks (n:=aa.toks) V.tk (itr.walks.done _ _ _ (hie ▸ V.st) fun h' tk hk htk=>?_)
  rw [hie,List.drop_length] at hgo
  obtain rfl:=Option.some.inj hgo
  obtain ⟨m,hm⟩:=V.frame.ns
  exact hnn _ (hR _ ys (step hk) htk (keepD hk hys) (by simpa using hyr.mono (viewI hk)) ⟨m,keepL hk hm⟩ (let ⟨_,o,q,u⟩:=V.mu _ V.frame.muL;⟨o,hk _ o (by simpa using hLI) q,u⟩))
end
end Mine
end
section
open PySem PySem.W PyProof.Rows PySem.Calls PySem.Spec
set_option autoImplicit false
namespace Mine
section
variable {C:Cfg} {lev:Nat} {Γ:List Fn} {ns:List Str} {A:Around} {env:Env} {ρ:Ro} {Mu:Addr→Bool} {s:Shared}
noncomputable def bU8 (C:Cfg) (A:Around) (Mu:Addr→Bool) (env:Env) (iter:Expr) (s:Shared) (ds:List D):Prop :=
 ∀ (Q E:Value→Shared→Prop),(∀ aa I fp P St ai,Go C s aa→s.toks≤aa.toks→aa.heap.get? I=none→Itr C A I Mu ds fp P St aa→Go C aa ai→aa.toks≤ai.toks→St 0 ai.heap→Q (.ref I) ai) →
  wpAny (model C.prog C.w) A (eval iter env) (fun x aa=>wpAny (model C.prog C.w) A (pyIter x) Q E aa) E s
theorem bT5 {elt target iter:Expr} {ifs:List Expr} {sc:Scope} {pos pos':Pos} {names:List Str} {bnd:D→Option (List (Nat × D))}
  {ft:Ro→Option Bool} {fe:Ro→Option D} {ds rs:List D} {use:Option (Value→Sem Unit)} {Q E:Value→Shared→Prop}
  (X:Cx C lev Γ ns A env ρ Mu s) (K:CompOk sc env.scope names) (hset:aP3 iter) (hit:bU8 C A Mu env iter s ds) (hlen:ds.length≤lim)
  (tks:cK7 C A ns target names bnd)
  (own:∀ I fp P St aa,Itr C A I Mu ds fp P St aa→∀ i j (s':Shared) v (Q:Unit→Shared→Prop) (E:Value→Shared→Prop),St i s'.heap→P j v→Q () s'→wpAny (model C.prog C.w) A (letOwnedTupleGo target (.ref I) v) Q E s')
  (htest:∀ cenv Mv ao s b,cenv.scope=aE2 sc env.scope→Cx C lev Γ ns A cenv ao Mv s→ft ao=some b→∀ (Q:Bool→Shared→Prop) (E:Value→Shared→Prop),(∀ s',Go C s s'→s.toks≤s'.toks→Q b s') →
   wpAny (model C.prog C.w) A (forIn ifs true fun c r=>if r=true then do let ok ← isTrue c cenv (eval c cenv);pure (ForInStep.yield ok) else pure (ForInStep.yield r)) Q E s)
  (helt:∀ cenv Mv ao s d,cenv.scope=aE2 sc env.scope→Cx C lev Γ ns A cenv ao Mv s→fe ao=some d→PE C A Mv (eval elt cenv) s d)
  (hrs:aQ9 (fun ao=>(ft ao).bind fun c=>if c=true then (fe ao).map some else some none) (fun d=>(bnd d).map fun bs=>cT4 bs (aP4 ρ)) ds=some rs)
  (hR:∀ D L s' vs n,Go C s s'→s.toks≤s'.toks→s.heap.get? D=none→s.heap.get? L=none→D≠L→(∃ m,s'.heap.Ns L m)→(∃ o,s'.heap.get? L=some o∧aL8 o)→s'.heap.get? D=some (aB2 vs n)→RdL C (Fz s'.heap fun a=>Mu a || a == L) vs rs →
   compPost (model C.prog C.w) A E use Q (.ref D) L (.ok .next) s') :
  wpAny (model C.prog C.w) A (comprehension (.ListComp elt [⟨target,iter,ifs,0⟩] sc pos) sc env pos' (newList []) false (eval iter env) use) Q E s:=by
 have free:∀ x,(x,NameKind.free)∈sc.names→(env.cells.lookup x).isSome=true:=fun x m=>by
  rcases K.names x _ m with ⟨_,h⟩ | h | ⟨h | h,_⟩
  ·exact X.envOk.has x (aL5 h)
  ·cases h
  ·cases h
  ·cases h
 have hs:∀ x,foldedSetIterable iter env x=pure x:=hset env
 refine wpAny_comprehension_free rfl hs (eE5 free) K.kind (fun x hx _=>?_) (hit _ _ fun aa I fp P St ai aj ax hI itr al aF st=>?_)
 ·rename_i hl
  have:=aM9 K.dis (x:=x.1) (k:=x.2) hx
  rw [hl] at this;exact this
 refine wpAny_newObj_type ?_
 generalize ct:({ ai with heap:=ai.heap.push { cls:=.type "list",dict:=none,data:=.seq ([]:List Value).toArray } }:Shared)=ar
 have cH:ar.heap=ai.heap.push { cls:=.type "list",dict:=none,data:=.seq ([]:List Value).toArray }:=by rw [← ct]
 have ey:ar.heap.objs.size=ai.heap.objs.size+1:=by rw [cH,Heap.size_push]
 have aE:Go C aa ar:=al.trans (by rw [← ct];exact .push _)
 have cu:Go C s ar:=aj.trans aE
 have c9:SOk C aa:=X.ok.go aj
 have hDobj:ar.heap.get? ai.heap.objs.size=some (aB2 [] 0):=by rw [cH];exact Heap.get?_push_size _ rfl
 have cI:St 0 ar.heap:=itr.walks.frame _ _ _ st fun b _ o e=>by rw [cH];exact Heap.get?_push_of_some _ e
 refine hid fun Gz zz=>?_
 obtain ⟨oI,hoI,tI⟩:=itr.cls _ _ st
 obtain ⟨oP,hP,hPc⟩:=C.tabNone _ c9.tab
 refine zz ?_;clear zz Gz
 have fresh:∀ {h:Heap} (a:Nat),h.objs.size≤a→h.get? a=none:=fun {h} a ha=>by
  cases e:h.get? a with
  | none=>rfl
  | some o'=>exact absurd (Heap.lt_size e) (Nat.not_lt.mpr ha)
 have cK:ar.heap.get? I=some oI:=by rw [cH];exact Heap.get?_push_of_some _ hoI
 have neD:ai.heap.objs.size≠I:=Ne.symm (Nat.ne_of_lt (Heap.lt_size hoI))
 have back:∀ {a:Addr},ai.heap.get? a=none→aa.heap.get? a=none∨a=C.PT:=fun {a} h=>by
  cases e:aa.heap.get? a with
  | none=>exact .inl rfl
  | some o =>
   by_cases q:a=C.PT
   ·exact .inr q
   ·rw [al.ext a o e (.inr q)] at h;exact nos h.symm
 have bC:SOk C ar:=c9.go aE
 have dH:=C.tabNone _ bC.tab
 have cL:=C.tabNone _ (c9.go al).tab
 have back':∀ {a:Addr},ai.heap.get? a=none→aa.heap.get? a=none:=fun {a} h=>(back h).elim id fun q=>by
  obtain ⟨o,e,_⟩:=cL;rw [← q,h] at e;exact nos e
 have aR:FrameIs Mu env ar.heap:=X.frame.ext X.mu cu.ext
 have dI:MuOk C Mu ar.heap:=X.mu.ext cu.ext
 refine dF8 (W:=ai.heap.objs.size::I::aR1 ar.heap.objs.size sc) K X.envOk aR dI (let ⟨o,e,_⟩:=dH;⟨o,e⟩) (fun a h=>.tail _ (.tail _ h)) ?_ fun h' keep hnew eo F M cs cenv hce hcl=>?_
 ·intro a ha hn
  rcases List.mem_cons.mp ha with rfl | ha
  ·obtain ⟨o,e,_⟩:=cL
   exact ⟨fun z=>by rw [← z] at e;exact absurd (Heap.lt_size e) (Nat.lt_irrefl _),_,hDobj,⟨by simp,by simp⟩⟩
  ·rcases List.mem_cons.mp ha with rfl | ha
   ·exact ⟨cR0 bC.tab cK tI.1,oI,cK,tI⟩
   ·exact absurd ha hn
 rw [hce]
 have hWnew:∀ a∈ai.heap.objs.size::I::aR1 ar.heap.objs.size sc,aa.heap.get? a=none:=by
  intro a ha
  rcases List.mem_cons.mp ha with rfl | ha
  ·exact back' (fresh _ (Nat.le_refl _))
  ·rcases List.mem_cons.mp ha with rfl | ha
   ·exact hI
   ·have:=hnew a ha
    refine back' ?_
    cases e:ai.heap.get? a with
    | none=>rfl
    | some o=>rw [cH,Heap.get?_push_of_some _ e] at this;exact nos this.symm
 have inOwn:∀ a∈aR1 ar.heap.objs.size sc,a≠I∧a≠ai.heap.objs.size:=fun a ha=>by
  have:=hnew a ha
  exact ⟨fun z=>(by rw [z,cK] at this;exact nos this.symm),fun z=>(by rw [z,hDobj] at this;exact nos this.symm)⟩
 have keepS:Go C ar { ar with heap:=h' }:=Go.keep (d:=ar.drawn) (tk:=ar.toks) keep
 have bP:aa.toks≤ar.toks:=by rw [← ct];exact aF
 have bv:St 0 h':=itr.walks.frame _ _ _ cI fun b _ o e=>keep b o e
 have final:codeAny (model C.prog C.w) A (.compLoop (.ListComp elt [⟨target,iter,ifs,0⟩] sc pos) 0 (.ref I) (.ref ai.heap.objs.size) (aD5 sc ar.heap.objs.size env))
   (compPost (model C.prog C.w) A E use Q (.ref ai.heap.objs.size) cenv.locals) { ar with heap:=h' }:=by
  refine cU3 (cenv:=aD5 sc ar.heap.objs.size env) (Mu:=Mu) (W:=ai.heap.objs.size::I::aR1 ar.heap.objs.size sc) (ρ:=aP4 ρ) X.fns X.kit X.room c9 (aM7 X.tok ax) X.nodup eo tks
   (fun x hx=>⟨(cs x hx).1,.tail _ (.tail _ (cs x hx).2)⟩) (own _ _ _ _ _ itr) itr hWnew (.head _) (.tail _ (.head _)) neD (inOwn _ (.head _)).1 (inOwn _ (.head _)).2 ?_ (fun x hx=>inOwn _ (cs x hx).2) hlen rfl
   (fun ao s b=>htest _ _ ao s b rfl) (fun ao s d=>helt _ _ ao s d rfl) hrs ?_ ?_
  ·intro x c q
   obtain ⟨v,hv⟩:=F.cell x c q
   rcases List.mem_append.mp (mem_of_lookup q) with m | m
   ·exact inOwn c (.tail _ (List.mem_map_of_mem (f:=(·.2)) m))
   ·rcases (aG5 _ _ _ _ _).mp m with m | ⟨m,e⟩
    ·cases m
    ·obtain ⟨c',hc'⟩:=Option.isSome_iff_exists.mp (free x m)
     rw [hc'] at e
     refine hid fun Gz zz=>?_
     obtain ⟨v',hv'⟩:=(X.frame.ext X.mu aj.ext).cell x c (by rw [hc',e];rfl)
     obtain ⟨o,ho,_⟩:=hv'
     refine zz ?_;clear zz Gz
     exact ⟨fun z=>(by rw [z,hI] at ho;exact nos ho),fun z=>(by rw [z,hWnew _ (.head _)] at ho;exact nos ho)⟩
  ·refine ⟨aE.trans keepS,bP,bv,⟨#[],⟨0,keep _ _ hDobj⟩,Nat.le_refl _,.nil⟩,F,M,?_⟩
   intro k x lv hx hl hv hxn
   obtain ⟨hl',d,rfl⟩:=cU2 hl
   obtain ⟨ad,hvars⟩:=X.vars
   have hvk:bB6 env.scope x=true:=(bN8 K hv hxn (fun z=>X.nodup.2 (z ▸ List.mem_of_getElem? hx))).2.2
   obtain ⟨v,hv1,rv⟩:=hvars k x _ hx hl' hvk
   refine ⟨d,v,rfl,dF7 K X.envOk hv hxn (fun z=>X.nodup.2 (z ▸ List.mem_of_getElem? hx)) (hv1.ext X.mu X.frame cu.ext) fun c _ ⟨o,e,dd⟩=>⟨o,keep c o e,dd⟩,?_⟩
   refine rv.mono fun a o q c=>?_
   dsimp only [Fz] at q ⊢
   by_cases m:Mu a=true
   ·rw [if_pos m] at q;exact nos q
   ·rw [if_neg m] at q
    have bX:=aj.ext a o q (.inl c)
    have nW:a∉ai.heap.objs.size::I::aR1 ar.heap.objs.size sc:=fun w=>by rw [hWnew a w] at bX;exact nos bX
    have nW':(Mu a || (ai.heap.objs.size::I::aR1 ar.heap.objs.size sc).contains a)=false:=by
     rw [Bool.or_eq_false_iff];exact ⟨by simpa using m,by simpa using nW⟩
    rw [if_neg (fun z=>Bool.false_ne_true (nW'.symm.trans z))]
    exact keep a o (cu.ext a o q (.inl c))
  ·intro s' ys g t hpl hr hm hT
   obtain ⟨n,hpl⟩:=hpl
   have old:∀ {a:Addr},aa.heap.get? a=none→s.heap.get? a=none:=fun {a} h=>by
    cases e:s.heap.get? a with
    | none=>rfl
    | some o =>
     by_cases q:a=C.PT
     ·rw [q,hP] at h;exact nos h.symm
     ·rw [aj.ext a o e (.inr q)] at h;exact nos h.symm
   rw [hcl]
   refine hR _ _ s' ys.toList n (aj.trans g) (aA9 ax t) (old (hWnew _ (.head _))) (old (hWnew _ (.tail _ (.tail _ (.head _))))) (by rw [ey];exact Nat.ne_of_lt (Nat.lt_succ_self _)) hm hT (by simpa using hpl) ?_
   refine hr.mono (.mu fun a h=>?_)
   rw [Bool.or_eq_true] at h ⊢
   rcases h with h | h
   ·exact .inl h
   ·refine .inr (List.contains_iff_mem.mpr ?_)
    rw [eq_of_beq h]
    exact .tail _ (.tail _ (.head _))
 exact codeAny_compStart_list final (itr.walks.self _ _ _ _ bv final)
end
end Mine
end
section
open PySem PySem.W PyProof.Rows PySem.Calls PySem.Spec PySem.Builtin.Str
set_option autoImplicit false
namespace Mine
section
variable {M:Model} {A:Around} {E:Value→Shared→Prop} {s:Shared} {env:Env}
theorem bY2 {op:BoolOp} {pos:Pos} {x y:Sem Value} {rest:List (Sem Value)} {Q:Value→Shared→Prop}
  (h:wpAny M A x (fun v aa=>wpAny M A (truthy v) (fun t ai=>if t=decide (op=.And) then wpAny M A (boolOp pos op (y::rest)) Q E ai else Q v ai) E aa) E s) :
  wpAny M A (boolOp pos op (x::y::rest)) Q E s:=by
 refine wpAny_bind (wpAny_mono h (fun v aa av=>wpAny_bind (wpAny_standAt (wpAny_bind (wpAny_holding (wpAny_mono av (fun t ai aL=>?_) fun _ _ e=>e))))) fun _ _ e=>e)
 cases op<;>cases t<;>first | exact aL | exact wpAny_pure aL
theorem eE6 {l r t:Expr} {o1 o2:CmpOp} {pos:Pos} {whole:Sem Value} {Q:Bool→Shared→Prop} (hm:behindInMarks o2 t=false)
  (h:wpAny M A (eval l env) (fun a aa=>wpAny M A (eval r env) (fun b ai=>wpAny M A (compareOp o1 a b) (fun c ar=>wpAny M A (truthy c) (fun x aU =>
   if x=true then wpAny M A (eval t env) (fun d bU=>wpAny M A (compareOp o2 b d) (fun c' ez=>wpAny M A (truthy c') Q E ez) E bU) E aU else Q false aU) E ar) E ai) E aa) E s) :
  wpAny M A (isTrue (.Compare l [o1,o2] [r,t] pos) env whole) Q E s:=by
 rw [arm_isTrue_Compare]
 refine wpAny_bind (wpAny_mono h (fun a aa av=>?_) fun _ _ e=>e)
 have hb:markedBehindIn o2 t (eval t env)=eval t env:=by dsimp only [markedBehindIn];rw [hm]
 have he:markedEach [o1,o2] [r,t] (evalEach [r,t] env)=[eval r env,eval t env]:=by
  show eval r env::markedEach [o2] [t] [eval t env]=_
  dsimp only [markedEach];rw [hb]
 rw [he]
 refine wpAny_bind (wpAny_holding (wpAny_mono av (fun b ai aL=>wpAny_bind (wpAny_standAt (wpAny_bind (wpAny_holding (wpAny_mono aL (fun c ar a7=>wpAny_bind (wpAny_release (wpAny_bind (wpAny_holding
   (wpAny_mono a7 (fun x aU bg=>?_) fun _ _ e=>e))))) fun _ _ e=>e))))) fun _ _ e=>e))
 cases x with
 | false=>exact wpAny_pure bg
 | true=>exact wpAny_bind (wpAny_holding (wpAny_mono bg (fun d bU bA=>wpAny_bind (wpAny_standAt (wpAny_bind (wpAny_operating (wpAny_mono bA (fun c' ez eU=>wpAny_holding eU) fun _ _ e=>e))))) fun _ _ e=>e))
end
section
variable {prog:Program} {w:World} {A:Around} {E:Value→Shared→Prop} {s:Shared} {env:Env}
theorem aT2 {o:Expr} {name:Str} {apos pos:Pos} {args:List Expr} {Q:Value→Shared→Prop} (hbase:attributeBase o name env (eval o env)=eval o env) (hline:(apos.endLine == pos.line)=true)
  (hfew:methodCallForm (args.length+([]:List Keyword).length) (backTo pos (starEach args env)) (backToKw pos (keywordEach [] env))=true)
  (h:wpAny (model prog w) A (eval o env) (fun ov aa=>∀ pl,wpAny (model prog w) A (getMethod ov name pl) (fun r ai=>wpAny (model prog w) A (callWith pos r.1 r.2 (backTo pos (starEach args env)) []) Q E ai) E aa) E s) :
  wpAny (model prog w) A (eval (.Call (.Attribute o name apos) args [] pos) env) Q E s:=by
 rw [arm_eval_Call,hbase]
 refine wpAny_bind (wpAny_mono h (fun ov aa av=>wpAny_bind (wpAny_standAt ?_)) fun _ _ e=>e)
 have hpos:methodCallPos true o env apos pos=pure pos:=by dsimp only [methodCallPos];simp [hline]
 dsimp only [methodCall]
 rw [hfew]
 refine wpAny_bind (wpAny_holding ?_)
 show wpAny _ A (getMethod ov name _) _ _ _
 refine wpAny_mono (av _) (fun r ai aL=>?_) fun _ _ e=>e
 exact wpAny_bind (wpAny_of_eq hpos aL)
theorem cN6 {a:Addr} {vs:List Value} {n:Nat} {Q:List Value→Shared→Prop} (ha:s.heap.get? a=some (aB2 vs n)) (hz:vs.length≤sizeLine)
  (h:∀ h',(∀ b o,s.heap.get? b=some o→h'.get? b=some o)→Q vs { s with heap:=h' }):StarOf (model prog w) A E (.ref a) Q s:=by
 have hT':s.TypeIs (.ref a) "list":=⟨_,ha,rfl⟩
 have z:wpAny (model prog w) A (collect (.ref a)) Q E s :=
  wpAny_collect_seq a (.inl rfl) ha rfl rfl (fun h' hk=>h h' hk) (by simpa using hz)
 dsimp only [StarOf,notIterableAtAll]
 exact wpAny_bind (wpAny_specialOf hT' PySem.F.slot_list_iter.lookup (wpAny_pure ⟨rfl,z⟩))
end
section
variable {C:Cfg} {lev:Nat} {Γ:List Fn} {ns:List Str} {A:Around} {env:Env} {ρ:Ro} {Mu Mv:Addr→Bool} {s s':Shared}
noncomputable def PB (C:Cfg) (A:Around) (t:Sem Bool) (s:Shared) (b:Bool):Prop:=∀ (Q:Bool→Shared→Prop) (E:Value→Shared→Prop),(∀ s',Go C s s'→Q b s')→wpAny (model C.prog C.w) A t Q E s
theorem PB.then (X:Cx C lev Γ ns A env ρ Mv s) {t:Sem Bool} {b:Bool} (h:PB C A t s b) {Q:Bool→Shared→Prop} {E:Value→Shared→Prop} (k:∀ s',Go C s s'→s.toks≤s'.toks→Cx C lev Γ ns A env ρ Mv s'→Q b s') :
  wpAny (model C.prog C.w) A t Q E s:=wpAny_with_toks (Nat.le_refl _) (h _ _ fun s' g ht=>k s' g ht (X.go g ht))
theorem bJ0 {value:Expr} {lower upper:Option Expr} {p pos:Pos} {ds rs:List D} {lo hi:Option Int} (M:MuOk C Mu s.heap) (hn:bA7 value=true)
  (hv:PE C A Mu (eval value env) s (.lst ds)) (hl:∀ s',Go C s s'→s.toks≤s'.toks→∀ (Q:Value→Shared→Prop) (E:Value→Shared→Prop),(∀ v s'',Go C s' s''→s'.toks≤s''.toks→IsPart v lo→Q v s'')→wpAny (model C.prog C.w) A (evalPart lower env) Q E s')
  (hu:∀ s',Go C s s'→s.toks≤s'.toks→∀ (Q:Value→Shared→Prop) (E:Value→Shared→Prop),(∀ v s'',Go C s' s''→IsPart v hi→Q v s'')→wpAny (model C.prog C.w) A (evalPart upper env) Q E s')
  (hz:ds.length≤1000) (hr:∀ (vs:List Value) (G:aU7),RdL C G vs ds→RdL C G (slicePick vs.toArray lo hi none).toList rs) :
  PE C A Mu (eval (.Subscript value (.Slice lower upper none p) pos) env) s (.lst rs):=by
 intro Q E k
 refine wpAny_Subscript_list_slice (hv.toks _ _ fun o aa aj ax cM=>hl aa aj ax _ _ fun vl ai al aF cA=>hu ai (aj.trans al) (aA9 ax aF) _ _ fun vu ar aE eW=>?_) (by intro o r;cases value<;>first | rfl | (cases hn;done))
 refine hid fun Gz zz=>?_
 obtain ⟨a,vs,n,rfl,e,r⟩:=aZ3 (cM.go (al.trans aE))
 refine zz ?_;clear zz Gz
 have g:Go C s ar:=(aj.trans al).trans aE
 have dI:MuOk C Mu ar.heap:=M.ext g.ext
 have gk:Go C ar { ar with heap:=ar.heap.push { cls:=.type "slice",data:=.fields #[vl,vu,.none] } }:=.push _
 refine ⟨a,vs.toArray,lo,hi,rfl,aI6 e,?_,cA,eW,?_⟩
 ·have:=r.length;simp only [List.size_toArray];exact aA9 (dY8 this hz) (by decide:1000≤sizeLine)
 ·refine k _ _ (g.trans (gk.trans (.push _))) ?_
  have hsz:(ar.heap.push { cls:=.type "slice",data:=.fields #[vl,vu,.none] }).objs.size=ar.heap.objs.size+1:=Heap.size_push ..
  have hf:=Fz.push (C:=C) (dI.ext gk.ext) (o:=aB2 (slicePick vs.toArray lo hi none).toList 0) rfl
  rw [hsz] at hf
  simp only [aB2,Array.toArray_toList] at hf
  refine .lst (vs:=(slicePick vs.toArray lo hi none).toList) (n:=0) (hf) ?_
  exact (hr vs _ r).mono (.ext (gk.trans (.push _)).ext)
theorem cN8 {value:Expr} {upper:Option Expr} {p pos:Pos} {x:Str} (hx:1≤x.length) (hx':x.length≤lim) (hn:bA7 value=true)
  (hv:PE C A Mu (eval value env) s (.str x))
  (hu:∀ s',Go C s s'→s.toks≤s'.toks→∀ (Q:Value→Shared→Prop) (E:Value→Shared→Prop),(∀ t s'',Go C s' s''→Q (.int (-1) t) s'')→wpAny (model C.prog C.w) A (evalPart upper env) Q E s') :
  PE C A Mu (eval (.Subscript value (.Slice none upper none p) pos) env) s (.str ⟨(x.cps.toList.take (x.cps.size - 1)).toArray⟩):=by
 intro Q E k
 refine wpAny_Subscript_str_slice (hv.toks _ _ fun o aa aj ax cM=>wpAny_evalPart_none (hu aa aj ax _ _ fun t ai al=>?_)) (by intro o r;cases value<;>first | rfl | (cases hn;done))
 obtain ⟨t',rfl⟩:=cM.inv
 refine ⟨x,t',none,some (-1,t),rfl,rfl,rfl,?_⟩
 have e:strSliceIndices none (some (-1)) 1 x.length=strSliceIndices (some ((0:Nat):Int)) (some ((x.length - 1:Nat):Int)) 1 x.length:=by
  rw [StrLaws.sliceIdx_neg_hi none x.length (by decide) (by lia)]
  have:(-1:Int)+x.length=((x.length - 1:Nat):Int):=eW3 (bQ7 hx)
  rw [this]
  simp [strSliceIndices]
  congr 1
 have h1:(slicePicked x none (some (-1,t)) none).length=x.length - 1:=by
  show (strSliceIndices none (some (-1)) 1 x.length).length=_
  rw [e,StrLaws.strSliceIndices_plain (Nat.zero_le _) (Nat.sub_le _ _)];simp
 have h2:(slicePicked x none (some (-1,t)) none).filterMap (x.cps[·]?)=x.cps.toList.take (x.cps.size - 1):=by
  show (strSliceIndices none (some (-1)) 1 x.length).filterMap (x.cps[·]?)=_
  rw [e,StrLaws.sliced_plain x (Nat.zero_le _) (Nat.sub_le _ _)]
  simp [Str.length]
 dsimp only [sliceMade]
 rw [if_neg (by rw [h1];simp;exact eT0 hx),h2]
 refine ⟨?_,k _ { ai with heap:=ai.heap.push _,toks:=ai.toks+1 } ((aj.trans al).trans (Go.push _)) (.str _ _)⟩
 have:(x.cps.toList.take (x.cps.size - 1)).length≤x.length:=by simp [Str.length]
 show (x.cps.toList.take (x.cps.size - 1)).toArray.size≤sizeLine
 simp only [List.size_toArray]
 exact aA9 this (aA9 hx' (by decide))
end
end Mine
end
section
open PySem PySem.W PyProof.Rows PySem.Calls PySem.Spec
set_option autoImplicit false
set_option maxRecDepth 100000
namespace Mine
namespace BAr
theorem slot_setitem:Slot "bytearray" "__setitem__" "bytearray.__setitem__" :=
 .of (owner:="bytearray") (n:="__setitem__") (by rw [typeLookup_type,builtinLookup_eq_fast];kernel_rfl) (by decide +kernel) (by decide +kernel) (by decide +kernel)
  (by first | exact .inl (by decide +kernel) | exact .inr (by decide +kernel)) (by rw [isSubtype_type];kernel_rfl)
theorem entry_setitem:entryFor table "bytearray.__setitem__"=some Builtin.«bytearray.__setitem__»:=by first | exact entryFor_of_fast (by kernel_rfl) | exact entryFor_of_tree (by kernel_rfl)
theorem args_setitem (a b c:Value):argsOk "bytearray.__setitem__" ⟨[a,b,c],[]⟩:=by skip;kernel_rfl
theorem cH7:typeLookup (.type "bytearray") "__bytes__"=pure none:=by rw [typeLookup_type,builtinLookup_eq_fast];kernel_rfl
theorem cH6:typeLookup (.type "bytearray") "__index__"=pure none:=by rw [typeLookup_type,builtinLookup_eq_fast];kernel_rfl
theorem aP9:typeLookup (.type "bytearray") "__buffer__"=pure (some (.builtin "bytearray.__buffer__")):=by rw [typeLookup_type,builtinLookup_eq_fast];kernel_rfl
theorem bS1:typeLookup (.type "bytearray") "__release_buffer__"=pure (some (.builtin "bytearray.__release_buffer__")):=by rw [typeLookup_type,builtinLookup_eq_fast];kernel_rfl
theorem sub_self:isSubtype (.type "bytearray") (.type "bytearray")=pure true:=by rw [isSubtype_type];kernel_rfl
section
variable {prog:Program} {w:World} {A:Around} {E:Value→Shared→Prop} {s:Shared}
theorem cT0 {k:Int} (h0:0≤k) (h:k < 2 ^ 63):Builtin.Bytes.fitsIndex k=true:=by
 unfold Builtin.Bytes.fitsIndex
 simp only [Bool.and_eq_true,decide_eq_true_eq]
 exact aV7 (cI2 (bA0 rfl) h0) h
theorem subscript_int {k:Int} {t:Tok} {Q:Option Int→Shared→Prop} (h0:0≤k) (h1:k < 2 ^ 63) (h:Q (some k) s):wpAny (model prog w) A (Builtin.Bytes.subscript? (.int k t)) Q E s:=by
 unfold Builtin.Bytes.subscript?
 refine wpAny_bind (wpAny_specialOf (T:="int") (typeIs_int s k t) int_index ?_)
 show wpAny _ A (asIndex (.int k t) >>= _) Q E s
 refine wpAny_bind (wpAny_of_eq (a:=k) rfl ?_)
 show wpAny _ A (if (!Builtin.Bytes.fitsIndex k)=true then _ else _) Q E s
 rw [if_neg (by rw [cT0 h0 h1];decide)]
 exact wpAny_pure h
theorem bE1 {l:Addr} {b:Array UInt8} {Q:Bool→Shared→Prop} (e:s.heap.get? l=some (aJ5 b)) (h:Q false s):wpAny (model prog w) A (Builtin.Bytes.ownRelease (.ref l)) Q E s:=by
 skip
 have hT:s.TypeIs (.ref l) "bytearray":=⟨_,e,rfl⟩
 refine wpAny_bind (wpAny_bind (wpAny_specialOf hT bS1 ?_))
 show wpAny _ A (if (!"bytearray.__release_buffer__".endsWith ("."++"__release_buffer__"))=true then _ else _) _ E s
 rw [if_neg (by decide +kernel)]
 have key:∀ x:String,x="bytearray"→wpAny (model prog w) A (isInstance (.ref l) (.type x)) (fun a s'=>wpAny (model prog w) A (pure !a) Q E s') E s:=fun x hx=>by
  subst hx;exact wpAny_isInstance hT sub_self (wpAny_pure h)
 exact key _ (by decide +kernel)
theorem payload_ok {l:Addr} {b:Array UInt8} {Q:Array UInt8→Shared→Prop} (e:s.heap.get? l=some (aJ5 b)) (h:Q b s):wpAny (model prog w) A (Builtin.Bytes.payload (.ref l)) Q E s:=by
 unfold Builtin.Bytes.payload Builtin.Bytes.payload?
 refine wpAny_bind (wpAny_bind (wpAny_load e ?_))
 exact wpAny_pure (wpAny_pure h)
theorem write_ok {l:Addr} {b:Array UInt8} {f:Array UInt8→Array UInt8} {Q:Unit→Shared→Prop} (e:s.heap.get? l=some (aJ5 b)) (hz:(f b).size≤1000)
  (h:∀ h',(∀ a o,a≠l→s.heap.get? a=some o→h'.get? a=some o)→h'.get? l=some (aJ5 (f b))→Q () { s with heap:=h' }):wpAny (model prog w) A (Builtin.Bytes.write (.ref l) f) Q E s:=by
 show wpAny _ _ (updateBytearray l f) _ _ _
 skip
 refine wpAny_bind (wpAny_load e ?_)
 show wpAny _ _ (update l (Obj.mapBytearray f) >>= fun _=>lookBehind l) _ _ _
 refine wpAny_bind (wpAny_update e ?_)
 have b0:(s.heap.update l (Obj.mapBytearray f)).get? l=some (aJ5 (f b)):=Heap.get?_update_self (Obj.mapBytearray f) e rfl
 refine wpAny_lookBehind b0 ?_ (h _ (fun a o ha q=>(Heap.get?_update_other _ _ (Ne.symm ha)).trans q) b0)
 show (if (f b).size > sizeLine then some "bytearray:memory" else none)=none
 rw [if_neg]
 have:1000≤sizeLine:=by size_fits
 exact bQ9 (aA9 hz (cl rfl))
end
end BAr
section
variable {prog:Program} {w:World} {A:Around} {E:Value→Shared→Prop} {s:Shared}
theorem cG4 {l:Addr} {b:Array UInt8} {k v:Int} {t u:Tok} {Q:Unit→Shared→Prop} (e:s.heap.get? l=some (aJ5 b)) (h0:0≤k) (h1:k < b.size) (hz:b.size≤1000) (h2:0≤v) (h3:v < 256)
  (h:∀ h' tk,(∀ b o,b≠l→s.heap.get? b=some o→h'.get? b=some o)→s.toks≤tk→h'.get? l=some (aJ5 (b.setIfInBounds k.toNat v.toNat.toUInt8))→Q () { s with heap:=h',toks:=tk }) :
  wpAny (model prog w) A (setItem (.ref l) (.int k t) (.int v u)) Q E s:=by
 have hT:s.TypeIs (.ref l) "bytearray":=⟨_,e,rfl⟩
 unfold setItem
 try with_reducible refine wpAny_holding ?_
 first | refine wpAny_bind (wpAny_pure ?_) | skip
 refine wpAny_bind (wpAny_sequenceKey hT (by decide) ?_)
 refine wpAny_bind (wpAny_callSpecial?_slot (name:=Str.ofString "__setitem__") hT BAr.slot_setitem
  (wpAny_call_entry BAr.slot_setitem hT BAr.entry_setitem ?_ (BAr.args_setitem _ _ _)))
 show wpAny _ _ (Builtin.Bytes.subscript? (.int k t) >>= _) _ _ s
 refine wpAny_bind (BAr.subscript_int h0 (bB8 (i_l h1) (dE4 hz rfl)) ?_)
 show wpAny _ _ (Builtin.Bytes.byteValue (.int v u) >>= _) _ _ s
 skip
 refine wpAny_bind (wpAny_bind (wpAny_of_eq (a:=v) rfl ?_))
 rw [if_neg (by simp;exact aV7 h2 h3)]
 refine wpAny_pure ?_
 refine wpAny_bind (BAr.payload_ok e ?_)
 rw [seqIndex_of h0 h1]
 show wpAny _ _ (Builtin.Bytes.write (.ref l) _ >>= _) _ _ s
 refine wpAny_bind (BAr.write_ok e (by simpa using hz) fun h' hk hn=>?_)
 first
  | exact wpAny_bind (wpAny_pure (wpAny_pure ⟨.none,rfl,wpAny_pure (h h' s.toks hk (Nat.le_refl _) hn)⟩))
  | exact wpAny_pure ⟨.none,rfl,wpAny_pure (h h' s.toks hk (Nat.le_refl _) hn)⟩
end
end Mine
end
section
open PySem PySem.W PyProof.Rows PySem.Calls PySem.Spec
set_option autoImplicit false
set_option maxRecDepth 100000
namespace Mine
namespace BAr
section
variable {prog:Program} {w:World} {A:Around} {E:Value→Shared→Prop} {s:Shared}
theorem cG2 {l:Addr} {b:Array UInt8} {Q:Bool→Shared→Prop} (e:s.heap.get? l=some (aJ5 b)) (h:Q true s):wpAny (model prog w) A (Builtin.Bytes.slotIsOwn (.ref l) "__buffer__") Q E s:=by
 unfold Builtin.Bytes.slotIsOwn
 have hT:s.TypeIs (.ref l) "bytearray":=⟨_,e,rfl⟩
 refine wpAny_bind (wpAny_specialOf hT aP9 ?_)
 show wpAny _ A (if (!"bytearray.__buffer__".endsWith ("."++"__buffer__"))=true then _ else _) _ E s
 rw [if_neg (by decide +kernel)]
 have key:∀ x:String,x="bytearray"→wpAny (model prog w) A (isInstance (.ref l) (.type x)) Q E s:=fun x hx=>by
  subst hx;exact wpAny_isInstance hT sub_self h
 exact key _ (by decide +kernel)
theorem cV1 {id:String} {full:Bool} {l:Addr} {b:Array UInt8} {Q:Option (Array UInt8)→Shared→Prop} (e:s.heap.get? l=some (aJ5 b)) (h:Q (some b) s):wpAny (model prog w) A (Builtin.Bytes.buffer? id (.ref l) full) Q E s:=by
 unfold Builtin.Bytes.buffer?
 have hT:s.TypeIs (.ref l) "bytearray":=⟨_,e,rfl⟩
 refine wpAny_bind (wpAny_specialOf hT aP9 ?_)
 refine wpAny_bind (cG2 e ?_)
 first
  | (show wpAny _ _ (if (!true)=true then _ else _) _ _ _;rw [if_neg (by decide)])
  | skip
 first
  | refine wpAny_bind (wpAny_specialOf hT aP9 ?_)
  | (refine wpAny_bind (wpAny_pure ?_);refine wpAny_bind (wpAny_specialOf hT aP9 ?_))
 refine wpAny_bind (bE1 e ?_)
 show wpAny _ _ (if false=true then _ else _) _ _ _
 rw [if_neg (by decide)]
 first
  | exact wpAny_bind (payload_ok e (wpAny_pure h))
  | exact wpAny_bind (wpAny_pure (wpAny_bind (payload_ok e (wpAny_pure h))))
theorem bytes_new {l:Addr} {b:Array UInt8} {Q:Value→Shared→Prop} (e:s.heap.get? l=some (aJ5 b)) (hz:b.size≤1000)
  (hQ:∀ t k,s.toks≤k→Q (.bytes b t) { s with toks:=k }) :
  codeAny (model prog w) A (.call (.builtin "bytes.__new__") ⟨[.type "bytes",.ref l],[]⟩) (wants Q E) s:=by
 refine codeAny_of_tree ?_
 show wpAny _ A.in1 (do checkBuiltinCall "bytes.__new__" ⟨[.type "bytes",.ref l],[]⟩;again (.builtin "bytes.__new__" ⟨[.type "bytes",.ref l],[]⟩)) _ _ s
 refine wpAny_bind (wpAny_of_eq (PySem.F.bm_newCall _) (wpAny_pure ⟨plainId_quiet PySem.F.bm_plain _,codeAny_builtin PySem.F.bm_entry ?_⟩))
 rw [Around.under_plainId PySem.F.bm_plain _]
 have hT:s.TypeIs (.ref l) "bytearray":=⟨_,e,rfl⟩
 have hz':b.size≤sizeLine:=aA9 hz (by size_fits)
 skip
 refine wpAny_bind (wpAny_of_eq (a:=true) rfl ?_)
 refine bm_if_false rfl ?_
 refine wpAny_bind (wpAny_of_eq PySem.F.bm_sub ?_)
 refine bm_if_false rfl ?_
 refine wpAny_bind (wpAny_of_eq (PySem.F.bm_bind _) ?_)
 refine wpAny_bind (wpAny_of_eq (a:=()) rfl ?_)
 refine wpAny_bind (wpAny_of_eq (a:=()) rfl ?_)
 refine bm_if_false rfl ?_
 refine wpAny_bind (wpAny_specialOf hT cH7 ?_)
 refine wpAny_bind (wpAny_bind ?_)
 show wpAny _ _ (load l >>= _) _ _ _
 refine wpAny_bind (wpAny_load e ?_)
 refine wpAny_pure (wpAny_pure ?_)
 refine bm_if_false rfl ?_
 refine wpAny_bind (wpAny_specialOf hT cH6 ?_)
 refine bm_if_true rfl ?_
 first
  | show wpAny _ _ (Builtin.Bytes.buffer? "bytes.__new__" (.ref l) true >>= _) _ _ _
  | (refine wpAny_bind ?_;show wpAny _ _ (Builtin.Bytes.buffer? "bytes.__new__" (.ref l) true >>= _) _ _ _)
 refine wpAny_bind (cV1 e ?_)
 refine wpAny_bind (wpAny_rule ?_)
 refine wpAny_bind (wpAny_mkBytes ?_ hz')
 refine wpAny_pure ?_
 exact hQ _ _ (Nat.le_succ _)
end
end BAr
section
variable {C:Cfg} {A:Around} {Mu Mv:Addr→Bool} {s s':Shared}
theorem bO2 {b:Array UInt8} {v:Value} (r:Rd C (Fz s.heap Mv) v (.barr b)) (hb:b.size≤1000):PE C A Mu (call (.type "bytes") [v]) s (.bytes b):=fun Q E k=>by
 obtain ⟨_,rfl,e⟩:=r.inv
 have e:=VLe.heap _ _ e Value.noConfusion
 refine callType_codes (Q₁:=fun obj aa=>aa.TypeIs obj "bytes"∧Q obj aa) PySem.F.bm_called (PySem.F.bm_typeCall _) PySem.F.entry_object_init
  (BAr.bytes_new e hb fun t n ht=>⟨PySem.W.typeIs_bytes _ _ _,k _ _ .tok (.bytes _ _)⟩) fun obj aa av=>?_
 exact ⟨av.1,PySem.F.args_object_init_2 obj _,object_init_meets PySem.F.bm_called.init.lookup PySem.F.bm_called.made (by decide) C.prog C.w A.in1 _ aa ⟨av.1,rfl,av.2⟩⟩
end
end Mine
end
section
open PySem PySem.W PyProof.Rows PySem.Calls PySem.Spec
set_option autoImplicit false
set_option maxRecDepth 100000
namespace Mine
namespace Lri
theorem eA6:typeLookup (.type "list_reverseiterator") "__len__"=pure none:=by rw [typeLookup_type,builtinLookup_eq_fast];kernel_rfl
theorem eX6:typeLookup (.type "list_reverseiterator") "__length_hint__"=pure (some (.builtin "list_reverseiterator.__length_hint__")):=by rw [typeLookup_type,builtinLookup_eq_fast];kernel_rfl
theorem sub_self:isSubtype (.type "list_reverseiterator") (.type "list_reverseiterator")=pure true:=by rw [isSubtype_type];kernel_rfl
section
variable {prog:Program} {w:World} {A:Around} {E:Value→Shared→Prop} {s:Shared}
theorem extend_rev {R:Result→Shared→Prop} {I l:Addr} {vs:Array Value} (hh:A.handled=none) (hz:vs.size≤1000) (hne:l≠I) (S:Addr) (hSI:S≠I) (hSl:S≠l) (res:Value) {dh:Nat}
  (hit:s.heap.IsRevIter I l ((vs.size:Int) - 1)) (hl:s.heap.IsList l vs) (hS:s.heap.get? S=some { cls:=.type "list",data:=.seq #[] dh })
  (hR:∀ h' tk acc' c',(∀ b o,b≠S→b≠I→s.heap.get? b=some o→h'.get? b=some o)→s.toks≤tk→h'.get? S=some { cls:=.type "list",dict:=none,data:=.seq acc' c',slots:=#[] } →
   ItemsOf (fun i v=>vs[vs.size - 1 - i]?=some v) acc' vs.size→R (.ok (.ret res)) { s with heap:=h',toks:=tk }) :
  wpAny (model prog w) A.in1 (Builtin.List.listExtendWith (.ref S) (.ref I) res)
   (fun fin s'=>match fin with | .done f=>R (.ok f) s' | .again c'=>c'.quiet=true∧codeAny (model prog w) A c' R s') (fun e s'=>R (.error e) s') s:=by
 have W:=(Walks.listRev (prog:=prog) (w:=w) (A:=A.in1) hh I l hne vs).toS
 have hn:vs.size≤sizeLine:=aA9 hz (by size_fits)
 have hSf:S∉[I,l]:=fun hm=>by simp at hm;rcases hm with h | h;exact hSI h;exact hSl h
 dsimp only [Builtin.List.listExtendWith]
 have hT:s.TypeIs (.ref I) "list_reverseiterator":=hit.typeIs
 refine wpAny_bind (wpAny_typeOf hT ?_)
 have h1:Builtin.List.listSameRef (.ref S) (.ref I)=false:=by simp [Builtin.List.listSameRef,hSI]
 have h2:(Value.type "list_reverseiterator" == Value.type "list")=false:=by decide
 have h3:(Value.type "list_reverseiterator" == Value.type "tuple")=false:=by decide
 simp only [h1,h2,h3,Bool.or_false,Bool.false_eq_true,if_false]
 refine wpAny_bind (wpAny_pyIter_revIter hit ?_)
 refine wpAny_bind (wpAny_holding ?_)
 skip
 refine wpAny_bind (wpAny_specialOf hT eA6 ?_)
 show wpAny _ A.in1 (specialOf (Value.ref I) (Str.ofString "__length_hint__") >>= _) _ _ _
 refine wpAny_bind (wpAny_specialOf hT eX6 ?_)
 (generalize hid:("list_reverseiterator.__length_hint__":String)=id0;(fail_if_success (clear hid id0));wp_delta;rw [show splitId id0=some ("list_reverseiterator","__length_hint__") from by subst hid;decide +kernel];subst hid)
 refine wpAny_bind (wpAny_isInstance (b:=true) hT sub_self ?_)
 refine wpAny_pure ?_
 rw [if_neg (by decide)]
 have e0:(vs.size:Int) - 1 - ((0:Nat):Int)=(vs.size:Int) - 1:=by lia
 refine wpAny_pure ⟨plainId_quiet PySem.F.plain_extend_loop _,codeAny_extend_loopS W hn S hSf res vs.size 0 _ _ _ rfl (Nat.zero_le _) ⟨Nat.zero_le _,by rw [e0];exact hit,hl⟩ hS (ItemsOf.nil _) fun s' acc' c' hm hS' hacc=>?_⟩
 rw [Moved.eq_with hm]
 refine hR s'.heap s'.toks acc' c' (fun b o hb hI e=>hm.heap b o (fun hmem=>?_) e) hm.toks hS' hacc
 simp at hmem
 rcases hmem with h | h
 ·exact hb h
 ·exact hI h
end
end Lri
theorem bW1 {C:Cfg} {G:aU7} {vs:List Value} {ds:List D} (r:RdL C G vs ds):RdL C G vs.reverse ds.reverse :=
 r.ind (P:=fun vs ds=>RdL C G vs.reverse ds.reverse) .nil fun h _ q=>by rw [List.reverse_cons,List.reverse_cons];exact q.append (.one h)
theorem cS0 {acc:Array Value} {vs:List Value} (h:ItemsOf (fun i v=>vs.toArray[vs.toArray.size - 1 - i]?=some v) acc vs.toArray.size):acc.toList=vs.reverse:=by
 obtain ⟨h1,h2⟩:=h
 apply List.ext_getElem?
 intro i
 by_cases hi:i < vs.length
 ·have hi':i < acc.size:=by rw [h1]; exact hi
  have hx:acc[i]?=some acc[i]:=Array.getElem?_eq_getElem hi'
  have:=h2 i _ hx
  rw [Array.getElem?_toList,hx,← this,List.getElem?_reverse hi]
  simp
 ·rw [List.getElem?_eq_none (by rw [Array.length_toList,h1];simpa using hi),List.getElem?_eq_none (by simpa using hi)]
section
variable {C:Cfg} {A:Around} {Mu Mv:Addr→Bool} {s s':Shared}
theorem cH8 {ds:List D} {l:Addr} {vs:List Value} {n:Nat} (hh:A.handled=none) (M:MuOk C Mu s.heap) (e:Fz s.heap Mu l=some (aB2 vs n)) (r:RdL C (Fz s.heap Mu) vs ds) (hl:ds.length≤1000)
  {Q E:Value→Shared→Prop} (k:∀ v s',Go C s s'→Rd C (Fz s'.heap Mu) v (.lst ds.reverse)→Q v s') :
  wpAny (model C.prog C.w) A (call (.type "reversed") [.ref l]) (fun v s'=>wpAny (model C.prog C.w) A (call (.type "list") [v]) Q E s') E s:=by
 have el:=VLe.heap _ _ e Value.noConfusion
 have hL:s.heap.IsList l vs.toArray:=⟨_,el,rfl,n,rfl⟩
 have hz:vs.toArray.size≤1000:=by simp;rw [r.length];exact hl
 refine call_reversed_list hL ?_
 generalize hI:s.heap.objs.size=I
 have hlI:l≠I:=hI ▸ Nat.ne_of_lt (Heap.lt_size el)
 generalize cN:({ s with heap:=s.heap.push (revObj l ((vs.toArray.size:Int) - 1)) }:Shared)=aa
 have dq:aa.heap.get? I=some (revObj l ((vs.toArray.size:Int) - 1)):=by rw [← cN,← hI];exact Heap.get?_push_size _ rfl
 have cO:∀ b o,s.heap.get? b=some o→aa.heap.get? b=some o:=fun b o q=>by rw [← cN];exact Heap.get?_push_of_some _ q
 refine callType_codes (Q₁:=fun obj ai=>obj=.ref aa.heap.objs.size∧ai={ aa with heap:=aa.heap.push { cls:=.type "list",data:=.seq #[] } }) PySem.F.called_list (PySem.F.typeCall_list_1 _) PySem.F.entry_list_init
  (code_list_new _ ⟨rfl,rfl⟩) fun obj ai aL=>?_
 obtain ⟨rfl,rfl⟩:=aL
 have hS:(aa.heap.push { cls:=.type "list",data:=.seq #[] }).get? aa.heap.objs.size=some { cls:=.type "list",data:=.seq #[] }:=Heap.get?_push_size _ rfl
 refine ⟨⟨_,hS,rfl⟩,PySem.F.args_list_init_2 _ _,?_⟩
 generalize hSS:aa.heap.objs.size=S at hS ⊢
 have hSI:S≠I:=hSS ▸ Nat.ne_of_gt (Heap.lt_size dq)
 have hSl:S≠l:=hSS ▸ Nat.ne_of_gt (Heap.lt_size (cO _ _ el))
 show wpAny _ A.in1.in1 (do let old ← Builtin.List.listItems (.ref S);Builtin.List.listUpdate (.ref S) (fun _=>#[]);letGo old.toList.reverse;Builtin.List.listExtendWith (.ref S) (.ref I) .none) _ _ _
 refine wpAny_bind ?_
 skip
 refine wpAny_bind (wpAny_seqItems hS rfl (wpAny_pure ?_))
 show wpAny _ _ (updateSeq S (fun _=>#[]) >>= fun _=>letGo (#[]:Array Value).toList.reverse >>= fun _=>Builtin.List.listExtendWith (.ref S) (.ref I) .none) _ _ _
 refine wpAny_bind (wpAny_updateSeq hS rfl ?_)
 have b0:=Heap.get?_update_self (Obj.mapSeq (fun _=>(#[]:Array Value))) hS rfl
 have oth:∀ b o,b≠S→(aa.heap.push { cls:=.type "list",data:=.seq #[] }).get? b=some o→((aa.heap.push { cls:=.type "list",data:=.seq #[] }).update S (Obj.mapSeq (fun _=>(#[]:Array Value)))).get? b=some o :=
  fun b o hb e=>(Heap.get?_update_other _ _ (Ne.symm hb)).trans e
 refine wpAny_bind (wpAny_letGo ?_)
 have hIt:Heap.IsRevIter ((aa.heap.push { cls:=.type "list",data:=.seq #[] }).update S (Obj.mapSeq (fun _=>(#[]:Array Value)))) I l ((vs.toArray.size:Int) - 1):=⟨_,oth _ _ (Ne.symm hSI) (Heap.get?_push_of_some _ dq),rfl,rfl⟩
 have eA:Heap.IsList ((aa.heap.push { cls:=.type "list",data:=.seq #[] }).update S (Obj.mapSeq (fun _=>(#[]:Array Value)))) l vs.toArray:=⟨_,oth _ _ (Ne.symm hSl) (Heap.get?_push_of_some _ (cO _ _ el)),rfl,n,rfl⟩
 obtain ⟨dh,eB⟩:∃ dh,((aa.heap.push { cls:=.type "list",data:=.seq #[] }).update S (Obj.mapSeq (fun _=>(#[]:Array Value)))).get? S=some { cls:=.type "list",data:=.seq #[] dh }:=⟨_,b0⟩
 clear b0
 generalize fi:(aa.heap.push { cls:=.type "list",data:=.seq #[] }).update S (Obj.mapSeq (fun _=>(#[]:Array Value)))=a7 at *
 refine Lri.extend_rev (A:=A.in1) (s:={ aa with heap:=a7 }) hh hz hlI S hSI hSl .none hIt eA eB fun h' tk acc' c' hk ht hS' hacc=>?_
 have keep:∀ b o,s.heap.get? b=some o→h'.get? b=some o:=fun b o q=>by
  have h1:b≠S:=hSS ▸ Nat.ne_of_lt (Heap.lt_size (cO _ _ q))
  have h2:b≠I:=hI ▸ Nat.ne_of_lt (Heap.lt_size q)
  exact hk b o h1 h2 (oth b o h1 (Heap.get?_push_of_some _ (cO _ _ q)))
 refine ⟨rfl,?_⟩
 have e2:=cS0 hacc
 have hS'':h'.get? S=some (aB2 vs.reverse c'):=by rw [hS',← e2]
 have g:Go C s { aa with heap:=h',toks:=tk }:=by
  subst cN
  exact .keep keep
 refine k _ _ g (.lst (vs:=vs.reverse) (n:=c') ?_ ?_)
 ·unfold Fz
  rw [if_neg fun z=>?_]
  ·exact hS''
  ·obtain ⟨_,o',e',_⟩:=M S z
   have q:=Heap.lt_size (cO _ _ e')
   rw [hSS] at q
   exact Nat.lt_irrefl _ q
 ·exact bW1 (RdL.mono (VLe.ext g.ext) r)
end
end Mine
end
section
open PySem PySem.W PyProof.Rows PySem.Calls PySem.Spec
set_option autoImplicit false
set_option maxRecDepth 4000
namespace Mine
section
variable {C:Cfg} {lev:Nat} {Γ:List Fn} {ns:List Str} {A:Around} {env:Env} {ρ:Ro} {Mu Mv:Addr→Bool} {s s':Shared}
theorem PE.imm {Mw:Addr→Bool} {t:Sem Value} {d:D} (h:PE C A Mu t s d) (hi:dE1 d=true):PE C A Mw t s d:=fun Q E k=>h Q E fun v s' g r=>k v s' g (r.imm hi)
theorem PE.toTr {t:Sem Value} {d:D} (h:PE C A Mu t s d) (tr:Bool):PE C A (bB9 tr Mu) t s d:=fun Q E k=>h Q E fun v s' g r=>k v s' g r.tr
theorem bD2 {env:Env}:∀ (ifs:List Expr) {Q:Bool→Shared→Prop} {E:Value→Shared→Prop},Q false s →
  wpAny (model C.prog C.w) A (forIn ifs false fun c r=>if r=true then do let ok ← isTrue c env (eval c env);pure (ForInStep.yield ok) else pure (ForInStep.yield r)) Q E s
 | [],_,_,h=>wpAny_pure h
 | c::cs,Q,E,h=>by
  simp only [List.forIn_cons,Bool.false_eq_true,if_false]
  exact wpAny_bind (wpAny_pure (bD2 cs h))
theorem cE8 {env:Env} {c:Expr} {cs:List Expr} {Q:Bool→Shared→Prop} {E:Value→Shared→Prop}
  (h:wpAny (model C.prog C.w) A (isTrue c env (eval c env)) (fun b aa=>if b=true then
   wpAny (model C.prog C.w) A (forIn cs true fun c r=>if r=true then do let ok ← isTrue c env (eval c env);pure (ForInStep.yield ok) else pure (ForInStep.yield r)) Q E aa else Q false aa) E s) :
  wpAny (model C.prog C.w) A (forIn (c::cs) true fun c r=>if r=true then do let ok ← isTrue c env (eval c env);pure (ForInStep.yield ok) else pure (ForInStep.yield r)) Q E s:=by
 simp only [List.forIn_cons,if_true]
 refine wpAny_bind (wpAny_bind (wpAny_mono h (fun b aa av=>wpAny_pure ?_) fun _ _ x=>x))
 cases b with
 | true=>exact av
 | false=>exact bD2 cs av
theorem bS3 {e:Expr} (h:(match e with | .UnaryOp ..=>false | .BoolOp ..=>false | .IfExp ..=>false | .Compare ..=>false | _=>true)=true) (env:Env) (whole:Sem Value) :
  isTrue e env whole=(do let v ← whole;standAt e.pos;holding [v] (truthy v)):=by
 cases e<;>first | rfl | (cases h;done)
noncomputable def Sp (C:Cfg) (A:Around) (Mu:Addr→Bool) (t:Sem (List Value)) (s:Shared) (ds:List D):Prop :=
 ∀ (Q:List Value→Shared→Prop) (E:Value→Shared→Prop),(∀ vs s',Go C s s'→s.toks≤s'.toks→RdL C (Fz s'.heap Mu) vs ds→Q vs s')→wpAny (model C.prog C.w) A t Q E s
theorem RdL.tr {vs:List Value} {ds:List D} (r:RdL C (Fz s.heap Mu) vs ds) {tr:Bool}:RdL C (Fz s.heap (bB9 tr Mu)) vs ds:=by
 cases tr
 ·rw [aH7];exact r
 ·rw [aR7];exact r.whole
noncomputable def cL1 (kvs:List (Str × Int)) (ks:List (Option Expr)) (vs:List Expr):Prop:=∀ (C:Cfg) (A:Around) (env:Env) (pos:Pos),
  ∃ pairs:List (Sem Value × Sem Value),(evalEachOpt ks env).zip ((evalEach vs env).map fun v=>do let x ← v;standAt pos;pure x)=pairs.map (fun p=>(some p.1,p.2))∧pairs.length=kvs.length ∧
   ∀ (s:Shared) (Q:List (Value × Value)→Shared→Prop) (E:Value→Shared→Prop),(∀ ws pk tk,Carries (aC0 C.prog C.w) ws pk→IntVals pk (kvs.map fun p=>(.inr p.1,p.2))→Q ws { s with toks:=tk })→wpAny (model C.prog C.w) A (evalPairs pairs) Q E s
theorem dD2:cL1 [] [] []:=fun _ _ _ _=>⟨[],rfl,rfl,fun s _ _ k=>evalPairs_nil (k [] [] s.toks trivial .nil)⟩
theorem cR6 {x:Str} {n:Int} {r:List (Str × Int)} {ks:List (Option Expr)} {vs:List Expr} {k1 k2:Nat} {p1 p2:Pos} (h:cL1 r ks vs):cL1 ((x,n)::r) (some (.Constant (.str x) k1 p1)::ks) (.Constant (.int n) k2 p2::vs):=by
 intro C A env pos
 obtain ⟨pairs,h1,h2,h3⟩:=h C A env pos
 refine ⟨(eval (.Constant (.str x) k1 p1) env,(do let v ← eval (.Constant (.int n) k2 p2) env;standAt pos;pure v))::pairs,congrArg (_::·) h1,congrArg Nat.succ h2,fun s Q E k=>?_⟩
 refine evalPairs_cons (Constant_str (wpAny_bind (wpAny_Constant_int (wpAny_bind (wpAny_standAt (wpAny_pure (h3 _ _ _ fun ws pk tk hc hi=>k ((.str x s.toks,.int n (s.toks+1))::ws) ((.inr x,.int n (s.toks+1))::pk) tk ?_ (.cons hi))))))))
 exact And.intro (by simp [aC0,dD0,Value.isStrOf]) (And.intro rfl hc)
theorem bA5:∀ (ps acc:List (Key × Value)),((acc++ps).map (·.1)).Nodup→merged acc ps=acc++ps
 | [],acc,_=>by simp [merged]
 | p::r,acc,h=>by
  have hs:stored acc p.1 p.2=acc++[p]:=by
   unfold stored
   rw [if_neg]
   intro z
   obtain ⟨q,hq,e⟩:=List.any_eq_true.mp z
   rw [List.map_append,List.nodup_append] at h
   exact h.2.2 q.1 (List.mem_map_of_mem hq) p.1 (.head _) (of_decide_eq_true e)
  show merged (stored acc p.1 p.2) r=_
  rw [hs,bA5 r (acc++[p]) (by simpa using h)]
  simp
theorem aO3:∀ {l:List Str},aH2 l=true→l.Nodup
 | [],_=>.nil
 | x::r,h=>by
  (dsimp only [aH2] at h;rw [Bool.and_eq_true,Bool.not_eq_true'] at h)
  exact List.nodup_cons.mpr ⟨fun z=>(by rw [List.contains_iff_mem.mpr z] at h;cases h.1),aO3 h.2⟩
theorem bT2 {pairs:List (Sem Value × Sem Value)} {keys:List (Option Expr)} {values:List Expr} {pos:Pos} {kvs:List (Key × Int)} (M:MuOk C Mu s.heap) (T:SOk C s) (hn:(kvs.map (·.1)).Nodup)
  (hshape:(evalEachOpt keys env).zip ((evalEach values env).map fun v=>do let x ← v;standAt pos;pure x)=pairs.map fun p=>(some p.1,p.2)) (h0:pairs≠[]) (hlen:pairs.length≤15)
  (h:∀ aa,Go C s aa→s.toks≤aa.toks→aa.heap.get? s.heap.objs.size=some { cls:=.type "dict",data:=.dict #[] }→∀ (Q:List (Value × Value)→Shared→Prop) (E:Value→Shared→Prop),
   (∀ ws pk ai,Go C aa ai→Carries (aC0 C.prog C.w) ws pk→IntVals pk kvs→Q ws ai)→wpAny (model C.prog C.w) A (evalPairs pairs) Q E aa) :
  PE C A Mu (eval (.Dict keys values pos) env) s (.dct kvs):=by
 intro Q E k
 have aj:Go C s { s with heap:=s.heap.push { cls:=.type "dict",data:=.dict #[] } }:=.push _
 have hobj:(s.heap.push { cls:=.type "dict",data:=.dict #[] }).get? s.heap.objs.size=some { cls:=.type "dict",data:=.dict #[] }:=Heap.get?_push_size _ rfl
 refine wpAny_Dict_pairs (knd:=aC0 C.prog C.w) hshape h0 hlen (h _ aj (Nat.le_refl _) hobj _ _ fun ws pk ai al hc hi=>?_)
 have cw:=al.ext _ _ hobj (.inl (by simp))
 have hd:ai.heap.DictOf (aC0 C.prog C.w) s.heap.objs.size []:=(Heap.DictOf.new (knd:=aC0 C.prog C.w) s.heap).at fun o e=>by
  rw [hobj] at e;obtain rfl:=Option.some.inj e;exact cw
 refine ⟨pk,hc,hd,fun h' hd' hs'=>?_⟩
 have hfresh:s.heap.get? s.heap.objs.size=none:=by
  cases e:s.heap.get? s.heap.objs.size with
  | none=>rfl
  | some o=>exact absurd (Heap.lt_size e) (Nat.lt_irrefl _)
 have g:Go C s { ai with heap:=h',toks:=ai.toks+ws.length }:=(aj.trans al).but (fun a=>a=s.heap.objs.size) (fun a e=>e ▸ hfresh)
  (fun a o e q=>(by rw [e,cw] at q;obtain rfl:=Option.some.inj q;exact ⟨by simp,by simp⟩)) fun b o hb e=>hs'.extBut b o hb e
 have hkeys:(pk.map (·.1)).Nodup:=by rw [hi.keys];exact hn
 rw [bA5 pk [] (hkeys)] at hd'
 obtain ⟨o,ho,hdo⟩:=Heap.dictOf_iff.mp hd'
 refine k _ _ g (.dct (o:=o) (ps:=pk) ?_ (hdo) hi ?_)
 ·unfold Fz;rw [if_neg (by rw [M.fresh];exact Bool.false_ne_true)];exact ho
 ·have hlt:sysModules < s.heap.objs.size:=Nat.lt_trans (by decide:(1:Nat) < 3) T.top.g.lt
  exact beq_eq_false_iff_ne.mpr fun z=>by rw [z] at hlt;exact Nat.lt_irrefl _ hlt
end
end Mine
end
section
open PySem PySem.W PyProof.Rows PySem.Calls PySem.Spec
set_option autoImplicit false
namespace Mine
noncomputable def aC9:Key→D
 | .inl i=>.int i
 | .inr x=>.str x
theorem dY4 {C:Cfg} {G:aU7} {k:Key} {v:Value} (h:(aC0 C.prog C.w).is k v=true):Rd C G v (aC9 k):=by
 cases k with
 | inl i=>obtain ⟨t,rfl⟩:=Value.isInt_shape h;exact .int _ _
 | inr x=>obtain ⟨t,rfl⟩:=Value.isStrOf_shape h;exact .str _ _
theorem IntVals.item {ps:List (Key × Value)} {kvs:List (Key × Int)} (r:IntVals ps kvs):∀ {i:Nat} {k:Key} {v:Value},ps[i]?=some (k,v)→∃ n t,v=.int n t∧kvs[i]?=some (k,n):=by
 induction r with
 | nil=>exact fun e=>nos e
 | cons r ih =>
  rename_i k' n t ps kvs
  intro i k v e
  cases i with
  | zero =>
   obtain ⟨rfl,rfl⟩:=Prod.mk.inj (Option.some.inj e)
   exact ⟨n,t,rfl,rfl⟩
  | succ i=>exact ih e
section
variable {C:Cfg} {lev:Nat} {Γ:List Fn} {ns:List Str} {A:Around} {env:Env} {ρ:Ro} {Mu Mv:Addr→Bool} {s s':Shared}
theorem bT3 {kvs:List (Key × Int)} {o:Expr} {apos pos:Pos} {name:Str} {id:String} (hsl:Slot "dict" name id) (hty:typeOf (.builtin id)=pure (.type "method_descriptor")) (hp:(apos.endLine == pos.line)=true) (ho:aJ6 o)
  (h:PE C A Mu (eval o env) s (.dct kvs)) {Q E:Value→Shared→Prop}
  (k:∀ a s',Go C s s'→s.toks≤s'.toks→Rd C (Fz s'.heap Mu) (.ref a) (.dct kvs)→wpAny (model C.prog C.w) A (call (.builtin id) [.ref a]) Q E s') :
  wpAny (model C.prog C.w) A (eval (.Call (.Attribute o name apos) [] [] pos) env) Q E s:=by
 refine aT2 (aQ6 ho) hp (by rfl) (h.toks _ _ fun v s' g t r=>fun pl=>?_)
 refine hid fun Gz zz=>?_
 obtain ⟨a,ps,rfl,dy,iy,zy⟩:=aM3 r
 refine zz ?_;clear zz Gz
 refine getMethod_builtin dy.mapOf.typeIs PySem.F.plainAttrs_dict hsl hty dy.mapOf.noDict ?_
 exact callWith_method0 (k a s' g t r)
theorem bY9 {a:Addr} {kvs:List (Key × Int)} (r:Rd C (Fz s.heap Mu) (.ref a) (.dct kvs)):Mu a=false∧∃ o,s.heap.get? a=some o∧o.cls≠.none:=by
 refine hid fun Gz zz=>?_
 obtain ⟨_,o,_,h,e,r,i,z⟩:=r.inv
 refine zz ?_;clear zz Gz
 cases h
 unfold Fz at e
 cases q:Mu a with
 | true=>rw [q,if_pos rfl] at e;exact nos e
 | false =>
  rw [q,if_neg (by decide)] at e
  exact ⟨rfl,_,e,IsDictOf.cls r⟩
theorem dD6 (S:SOk C s) (hh:A.handled=none) {a v:Addr} {kvs:List (Key × Int)} (r:Rd C (Fz s.heap Mu) (.ref a) (.dct kvs)) (hv:s.heap.IsValuesView v a)
  {Q:Value→Shared→Prop} {E:Value→Shared→Prop}
  (k:∀ I fp P St,s.heap.get? I=none→Itr C A I Mu (kvs.map fun p=>.int p.2) fp P St s→∀ s',Go C s s'→s.toks≤s'.toks→St 0 s'.heap→Q (.ref I) s') :
  wpAny (model C.prog C.w) A (pyIter (.ref v)) Q E s:=by
 refine hid fun Gz zz=>?_
 obtain ⟨hm,oa,ea,ca⟩:=bY9 r
 obtain ⟨a',ps,e,dy,iy,zy⟩:=aM3 r
 refine zz ?_;clear zz Gz
 cases e
 obtain ⟨ep,da⟩:=dy.dictAt
 have hne:a≠s.heap.objs.size:=Nat.ne_of_lt (Heap.lt_size ea)
 have hn:s.heap.get? s.heap.objs.size=none:=by
  cases q:s.heap.get? s.heap.objs.size with
  | none=>rfl
  | some o=>exact absurd (Heap.lt_size q) (Nat.lt_irrefl _)
 have W:=Walks.dictValues (prog:=C.prog) (w:=C.w) (knd:=aC0 C.prog C.w) hh s.heap.objs.size a hne ps ep
 have hlen:ps.length=(kvs.map fun p=>D.int p.2).length:=by simp [iy.length]
 have hl':=hlen
 rw [hlen] at W
 obtain ⟨oP,hP,_⟩:=C.tabNone _ S.tab
 refine wpAny_pyIter_values hv da (k _ _ _ _ hn ⟨W,?_,?_,?_,?_,?_⟩ _ (.push _) (Nat.le_refl _) ⟨⟨_,Heap.get?_push_size _ rfl,rfl,?_⟩,da.push _⟩)
 ·intro b hb
  rcases List.mem_cons.mp hb with rfl | hb
  ·exact Nat.ne_of_gt (Heap.lt_size hP)
  ·rw [List.mem_singleton.mp hb];exact cR0 S.tab ea ca
 ·intro b hb
  rcases List.mem_cons.mp hb with rfl | hb
  ·exact .inl rfl
  ·rw [List.mem_singleton.mp hb]
   exact .inr ⟨hm,_,ea⟩
 ·rintro i v ⟨kk,hv⟩
  obtain ⟨n,t,rfl,hn⟩:=iy.item hv
  exact ⟨.int n,by simp [hn],.int _ _⟩
 ·rintro i h ⟨⟨o,ho,hc,_⟩,_⟩
  exact ⟨o,ho,by rw [hc];simp,by rw [hc];simp⟩
 ·rintro i j s' elts kk pos v Q E _ ⟨_,hv⟩ hQ
  obtain ⟨n,t,rfl,hn⟩:=iy.item hv
  rw [aS3 (by intro a e;cases e)];exact wpAny_pure hQ
 ·rw [← hl'];rfl
theorem dL2 (S:∀ s',Go C s s'→SOk C s') (hh:A.handled=none) {kvs:List (Key × Int)} {o:Expr} {apos pos:Pos} (hp:(apos.endLine == pos.line)=true) (ho:aJ6 o) (h:PE C A Mu (eval o env) s (.dct kvs)) :
  bU8 C A Mu env (.Call (.Attribute o "values" apos) [] [] pos) s (kvs.map fun p=>.int p.2):=by
 intro Q E k
 refine bT3 PySem.F.slot_dict_values PySem.F.type_dict_values hp ho h fun a s' g t r=>?_
 refine hid fun Gz zz=>?_
 obtain ⟨a',ps,e,dy,iy,zy⟩:=aM3 r
 refine zz ?_;clear zz Gz
 cases e
 refine call_meetsIn PySem.F.slot_dict_values dy.mapOf.typeIs PySem.F.entry_dict_values (PySem.F.args_dict_values_1 _) (meets_dict_values (aC0 C.prog C.w) a zy) ⟨⟨ps,dy⟩,?_⟩
 have gp:Go C s' { s' with heap:=s'.heap.push { cls:=.type "dict_values",data:=.fields #[.ref a] } }:=.push _
 refine dD6 (S _ (g.trans gp)) hh (r.go gp) ⟨_,Heap.get?_push_size _ rfl,rfl,rfl⟩ fun I fp P St hI itr s'' g' t' st=>?_
 exact k _ I fp P St s'' (g.trans gp) t hI itr g' t' st
end
end Mine
end
section
open PySem PySem.W PyProof.Rows PySem.Calls PySem.Spec
set_option autoImplicit false
set_option maxRecDepth 4000
namespace Mine
section
variable {C:Cfg} {lev:Nat} {Γ:List Fn} {ns:List Str}
theorem aN2 {env:Env} {x y:Str} (h:aC4 env.scope x y=true):x=y∧env.scope.names.lookup x=some .globalImplicit∧(x == ("__debug__":Str))=false:=by
 simp only [aC4,Bool.and_eq_true,decide_eq_true_eq,Bool.not_eq_true'] at h
 exact ⟨h.1.1,h.1.2,h.2⟩
theorem cI9 {env:Env} {pos:Pos} {A:Around} {s:Shared} {Mu:Addr→Bool} (M:MuOk C Mu s.heap) (S:SOk C s):PE C A Mu (eval (.Dict [] [] pos) env) s (.dct []):=by
 intro Q E k
 refine wpAny_Dict_empty (k _ _ (.push _) ?_)
 have hd:=Heap.DictOf.new (knd:=aC0 C.prog C.w) s.heap
 obtain ⟨o,ho,hdo⟩:=Heap.dictOf_iff.mp hd
 refine .dct (o:=o) (ps:=[]) ?_ hdo .nil ?_
 ·dsimp only [Fz];rw [if_neg (M.fresh ▸ Bool.false_ne_true)];exact ho
 ·have hlt:sysModules < s.heap.objs.size:=Nat.lt_trans (by decide:(1:Nat) < 3) S.top.g.lt
  exact beq_eq_false_iff_ne.mpr fun z=>by rw [z] at hlt;exact Nat.lt_irrefl _ hlt
theorem cU8 {A:Around} {env:Env} {ρ:Ro} {Mu:Addr→Bool} {s:Shared} {f:Addr} {g:List D→Option D} {vs:List Value} {ds:List D} {d:D} {tr:Bool} (X:Cx C lev Γ ns A env ρ Mu s) (hc:CallOk C lev f g) (r:RdL C (Fz s.heap Mu) vs ds) (hg:g ds=some d) :
  PE C A (bB9 tr Mu) (call (.ref f) vs) s d:=by
 intro Q E k
 exact wpAny_call (hc A Mu s vs ds d X.room X.ok X.tok X.mu r hg _ fun v s' g r=>k v s' g r.tr)
theorem cS2 {h:Heap} {Mu:Addr→Bool} {v:Value} {ds:List D} (r:Rd C (Fz h Mu) v (.ent ds)) :
  ∃ a dx l es n vs m,v=.ref a∧InstAt h a (instObj C.EC dx) C.EC (some (dictOf es n))∧getL "useragents" es=some (some (.ref l))∧getL "applies_to" es=some none∧Fz h Mu l=some (aB2 vs m)∧RdL C (Fz h Mu) vs ds :=
 by obtain ⟨a,dx,l,es,n,vs,m,e,h1,h2,h3,h5,h4,r⟩:=r.inv;exact ⟨a,dx,l,es,n,vs,m,e,⟨VLe.heap _ _ h1 Value.noConfusion,rfl,rfl,VLe.heap _ _ h2 Value.noConfusion⟩,h3,h5,h4,r⟩
theorem bC2 {G:aU7}:∀ (n:Nat) {vs:List Value} {ds:List D},RdL C G vs ds→RdL C G (vs.take n) (ds.take n)
 | 0,_,_,_=>by simp only [List.take_zero];exact .nil
 | n+1,_,_,.nil=>by simp only [List.take_nil];exact .nil
 | n+1,_,_,.cons h r=>by simp only [List.take_succ_cons];exact .cons h (bC2 n r)
theorem bL7 {G:aU7}:∀ (n:Nat) {vs:List Value} {ds:List D},RdL C G vs ds→RdL C G (vs.drop n) (ds.drop n)
 | 0,_,_,r=>r
 | n+1,_,_,.nil=>by simp only [List.drop_nil];exact .nil
 | n+1,_,_,.cons h r=>by simp only [List.drop_succ_cons];exact bL7 n r
theorem cZ7 {tr:Bool} {A:Around} {env:Env} {ρ:Ro} {Mv:Addr→Bool} {s:Shared} {value h:Expr} {p pos:Pos} {da db:D} (X:Cx C lev Γ ns A env ρ Mv s) (hn:bA7 value=true)
  (ha:PE C A (bB9 tr Mv) (eval value env) s da) (hb:∀ s',Go C s s'→s.toks≤s'.toks→PE C A (bB9 tr Mv) (eval h env) s' db):Al (cZ9 da none db) (PE C A (bB9 tr Mv) (eval (.Subscript value (.Slice none (some h) none p) pos) env) s):=by
 cases da with
 | lst ds=>cases db with
  | int b =>
   refine Al.ite fun hz=>Al.some (bJ0 (lo:=none) (hi:=some b) (aM0 X.mu) hn ha (fun s' g t Q E k=>wpAny_evalPart_none (k _ _ (.refl _) (Nat.le_refl _) .none)) (fun s' g t Q E k=>?_) hz.2.2 ?_)
   ·exact wpAny_evalPart_some ((hb s' g t) _ _ fun v s'' g' r=>by obtain ⟨t,rfl⟩:=r.inv;exact k _ _ g' (.int _ _))
   ·intro vs G r
    have hl:=r.length
    have hb':b=((b.toNat:Nat):Int):=(Int.toNat_of_nonneg hz.1).symm
    have e:=slicePick_upto vs.toArray b.toNat (by simp;exact cI2 hz.2.1 (cX3 (dA7 hl)))
    rw [← hb'] at e
    rw [e]
    exact bC2 b.toNat r
  | _=>exact Al.none
 | str x=>cases db with
  | int b =>
   refine Al.ite fun hz=>?_
   obtain ⟨rfl,h1,h2⟩:=hz
   exact Al.some (cN8 h1 h2 hn ha fun s' g t Q E k=>wpAny_evalPart_some ((hb s' g t) _ _ fun v s'' g' r=>by obtain ⟨t,rfl⟩:=r.inv;exact k _ _ g'))
  | _=>exact Al.none
 | _=>exact Al.none
theorem cZ8 {tr:Bool} {A:Around} {env:Env} {ρ:Ro} {Mv:Addr→Bool} {s:Shared} {value l h:Expr} {p pos:Pos} {da db dc:D} (X:Cx C lev Γ ns A env ρ Mv s) (hn:bA7 value=true)
  (ha:PE C A (bB9 tr Mv) (eval value env) s da) (hc:∀ s',Go C s s'→s.toks≤s'.toks→PE C A (bB9 tr Mv) (eval l env) s' dc) (hb:∀ s',Go C s s'→s.toks≤s'.toks→PE C A (bB9 tr Mv) (eval h env) s' db) :
  Al (cZ9 da (some dc) db) (PE C A (bB9 tr Mv) (eval (.Subscript value (.Slice (some l) (some h) none p) pos) env) s):=by
 cases da with
 | lst ds=>cases dc with
  | int a=>cases db with
   | int b =>
    refine Al.ite fun hz=>Al.some (bJ0 (lo:=some a) (hi:=some b) (aM0 X.mu) hn ha (fun s' g t Q E k=>?_) (fun s' g t Q E k=>?_) hz.2.2.2 ?_)
    ·exact wpAny_evalPart_some ((hc s' g t).toks _ _ fun v s'' g' t' r=>by obtain ⟨t,rfl⟩:=r.inv;exact k _ _ g' t' (.int _ _))
    ·exact wpAny_evalPart_some ((hb s' g t) _ _ fun v s'' g' r=>by obtain ⟨t,rfl⟩:=r.inv;exact k _ _ g' (.int _ _))
    ·intro vs G r
     have hl:=r.length
     have ha':a=((a.toNat:Nat):Int):=(Int.toNat_of_nonneg hz.1).symm
     have hb':b=((b.toNat:Nat):Int):=(Int.toNat_of_nonneg (Int.le_trans hz.1 hz.2.1)).symm
     have e:=slicePick_run vs.toArray a.toNat b.toNat (by simp;exact cI2 hz.2.2.1 (cX3 (dA7 hl))) (by lia)
     rw [← ha',← hb'] at e
     rw [e]
     exact bC2 (b.toNat - a.toNat) (bL7 a.toNat r)
   | _=>exact Al.none
  | _=>exact Al.none
 | _=>exact Al.none
theorem cC7 {A:Around} {env:Env} {ρ:Ro} {Mu:Addr→Bool} {s:Shared} {tr:Bool} {rs:List D} {Q E:Value→Shared→Prop} (X:Cx C lev Γ ns A env ρ Mu s) (k:∀ v s',Go C s s'→Rd C (Fz s'.heap (bB9 tr Mu)) v (.lst rs)→Q v s') :
  ∀ D L s' vs n,Go C s s'→s.toks≤s'.toks→s.heap.get? D=none→s.heap.get? L=none→D≠L→(∃ m,s'.heap.Ns L m)→(∃ o,s'.heap.get? L=some o∧aL8 o)→s'.heap.get? D=some (aB2 vs n)→RdL C (Fz s'.heap fun a=>Mu a || a == L) vs rs →
   compPost (model C.prog C.w) A E none Q (.ref D) L (.ok .next) s':=by
 intro D L s' vs n g t hD hL hDL hm hT hget r
 obtain ⟨m,hm⟩:=hm
 obtain ⟨oL,hoL,tL⟩:=hT
 refine ⟨m,hm,fun h' hs'=>?_⟩
 have nD:Mu D=false:=by
  cases e:Mu D with
  | false=>rfl
  | true=>obtain ⟨_,o,q,_⟩:=X.mu D e;rw [hD] at q;exact nos q
 have g':Go C s { s' with heap:=h' }:=g.but (fun a=>a=L) (fun a e=>e ▸ hL) (fun a o e q=>by rw [e,hoL] at q;obtain rfl:=Option.some.inj q;exact tL) fun b o hb e=>hs'.extBut b o hb e
 refine k _ _ g' (Rd.tr (s:={ s' with heap:=h' }) (.lst (vs:=vs) (n:=n) ?_ (r.mono fun a o q c=>?_)))
 ·dsimp only [Fz];rw [if_neg (nD ▸ Bool.false_ne_true)];exact hs'.extBut D _ hDL hget
 ·dsimp only [Fz] at q ⊢
  by_cases m':(Mu a || a == L)=true
  ·rw [if_pos m'] at q;exact nos q
  ·rw [if_neg m'] at q
   rw [Bool.or_eq_true,not_or] at m'
   rw [if_neg m'.1]
   exact hs'.extBut a o (by simpa using m'.2) q
noncomputable def Vk (C:Cfg) (lev:Nat) (Γ:List Fn) (ns:List Str) (e:IE) (sc:Scope) (x:Expr):Prop :=
 ∀ {tr:Bool} {A:Around} {env:Env} {ρ:Ro} {Mu:Addr→Bool} {s:Shared},Cx C lev Γ ns A env ρ Mu s→env.scope=sc→Al (ev Γ e tr ρ) (PE C A (bB9 tr Mu) (eval x env) s)
noncomputable def Tk (C:Cfg) (lev:Nat) (Γ:List Fn) (ns:List Str) (t:IT) (sc:Scope) (x:Expr):Prop :=
 ∀ {A:Around} {env:Env} {ρ:Ro} {Mu:Addr→Bool} {s:Shared},Cx C lev Γ ns A env ρ Mu s→env.scope=sc→Al (tst Γ t ρ) (PB C A (isTrue x env (eval x env)) s)
noncomputable def Ik (C:Cfg) (lev:Nat) (Γ:List Fn) (ns:List Str) (it:It) (sc:Scope) (x:Expr):Prop :=
 ∀ {A:Around} {env:Env} {ρ:Ro} {Mu:Addr→Bool} {s:Shared},Cx C lev Γ ns A env ρ Mu s→env.scope=sc→Al (bI2 Γ it ρ) (bU8 C A Mu env x s)
inductive Vks (C:Cfg) (lev:Nat) (Γ:List Fn) (ns:List Str) (sc:Scope):IEs→List Expr→Prop
 | nil:Vks C lev Γ ns sc .nil []
 | cons {e:IE} {es:IEs} {x:Expr} {xs:List Expr}:aA8 x=true→Vk C lev Γ ns e sc x→Vks C lev Γ ns sc es xs→Vks C lev Γ ns sc (.cons e es) (x::xs)
inductive Tks (C:Cfg) (lev:Nat) (Γ:List Fn) (ns:List Str) (sc:Scope):ITs→List Expr→Prop
 | nil:Tks C lev Γ ns sc .nil []
 | cons {t:IT} {ts:ITs} {x:Expr} {xs:List Expr}:Tk C lev Γ ns t sc x→Tks C lev Γ ns sc ts xs→Tks C lev Γ ns sc (.cons t ts) (x::xs)
theorem gAt {env:Env} {sc:Scope} {x y:Str} (hs:env.scope=sc) (h:aC4 sc x y=true):aC4 env.scope x y=true:=hs ▸ h
theorem Vk.f {e:IE} {sc:Scope} {x:Expr} (h:Vk C lev Γ ns e sc x) {A:Around} {env:Env} {ρ:Ro} {Mu:Addr→Bool} {s:Shared} (X:Cx C lev Γ ns A env ρ Mu s) (hs:env.scope=sc) {d:D} (hd:ev Γ e false ρ=some d):PE C A Mu (eval x env) s d:=by
 have:=h X hs d hd;rw [aH7] at this;exact this
theorem Vk.t {e:IE} {sc:Scope} {x:Expr} (h:Vk C lev Γ ns e sc x) {A:Around} {env:Env} {ρ:Ro} {Mu:Addr→Bool} {s:Shared} (X:Cx C lev Γ ns A env ρ Mu s) (hs:env.scope=sc) {d:D} (hd:ev Γ e true ρ=some d):PE C A noMu (eval x env) s d:=by
 have:=h X hs d hd;rw [aR7] at this;exact this
theorem cT5 {i:Nat} {tr:Bool} {ρ:Ro} {d:D} (h:ev Γ (.var i) tr ρ=some d):ρ.lookup i=some (.dat d)∨ρ.lookup i=some (.own d)∧tr=true:=by
 have h:(match ρ.lookup i with | some (.dat d)=>some d | some (.own d)=>if tr=true then some d else none | none=>none)=some d:=h
 cases e:ρ.lookup i with
 | none=>rw [e] at h;exact nos h
 | some lv =>
  rw [e] at h
  cases lv with
  | dat d'=>obtain rfl:=Option.some.inj h;exact .inl rfl
  | own d'=>cases tr with
   | false=>exact nos h
   | true=>obtain rfl:=Option.some.inj h;exact .inr ⟨rfl,rfl⟩
section
variable {sc:Scope} {a b c:IE} {x x1 x2 x3:Expr} {p p1 p2 p3 q:Pos} {n n1 n2 n3:Nat} {y y1 y2 z:Str}
theorem dW6:Vk C lev Γ ns .none sc (.Constant .none n p):=fun _ _=>Al.some fun Q E k=>Constant_none (k _ _ (.refl _) .none)
theorem dX3 {b:Bool}:Vk C lev Γ ns (.bool b) sc (.Constant (.bool b) n p):=fun _ _=>Al.some fun Q E k=>Constant_bool (k _ _ (.refl _) (.bool _))
theorem dM0 {i:Int}:Vk C lev Γ ns (.int i) sc (.Constant (.int i) n p):=fun _ _=>Al.some fun Q E k=>wpAny_Constant_int (k _ _ .tok (.int _ _))
theorem eI6 {i:Int}:Vk C lev Γ ns (.neg i) sc (.UnaryOp .USub (.Constant (.int i) n p) q):=fun _ _=>Al.some fun Q E k=>UnaryOp_ (wpAny_Constant_int (neg_int (k _ _ .tok (.int _ _))))
theorem eI4:Vk C lev Γ ns (.str y) sc (.Constant (.str y) n p):=fun _ _=>Al.some fun Q E k=>Constant_str (k _ _ .tok (.str _ _))
theorem dL3 {i:Nat} (h:aB6 ns sc i y=true):Vk C lev Γ ns (.var i) sc (.Name y p):=by
 intro tr A env ρ Mu s X hsc d hd Q E k
 subst hsc
 simp only [aB6,Bool.and_eq_true,decide_eq_true_eq,Bool.not_eq_true'] at h
 obtain ⟨ad,hv⟩:=X.vars
 rcases cT5 hd with hl | ⟨hl,ht⟩
 ·obtain ⟨v,hh,r⟩:=hv i _ _ h.1.1.1 hl h.1.1.2
  exact wpAny_Name (bC4 X hh h.2 (k _ _ (.refl _) r.tr)) h.1.2
 ·subst ht
  obtain ⟨v,hh,r⟩:=hv i _ _ h.1.1.1 hl h.1.1.2
  exact wpAny_Name (bC4 X hh h.2 (k _ _ (.refl _) (by rw [aR7];exact r.rd))) h.1.2
theorem eJ1 {op:BOp} (ha:Vk C lev Γ ns a sc x1) (hb:Vk C lev Γ ns b sc x2):Vk C lev Γ ns (.bin op a b) sc (.BinOp x1 (bO4 op) x2 p):=fun X hs =>
 Al.bind fun _ e1=>Al.bind fun _ e2 _ hd Q E k=>wpAny_BinOp ((ha X hs _ e1).then X fun _ _ aj aB ru=>(hb aB hs _ e2).then aB fun _ _ al bc rv =>
  eE9 (aM0 bc.mu) op hd (ru.go al) rv Q E fun w ar aE r=>k w ar ((aj.trans al).trans aE) r)
theorem eJ0 {op:COp} (h0:behindInMarks (aU6 op) x2=false) (ha:Vk C lev Γ ns a sc x1) (hb:Vk C lev Γ ns b sc x2):Vk C lev Γ ns (.cmp op a b) sc (.Compare x1 [aU6 op] [x2] p):=fun X hs =>
 Al.bind fun _ e1=>Al.bind fun _ e2=>Al.map fun _ hr Q E k=>wpAny_Compare1 ((ha X hs _ e1).then X fun _ _ aj aB ru=>(hb aB hs _ e2).then aB fun _ _ al bc rv =>
  cC9 bc.room.room op hr (ru.go al) rv Q E fun ar aE _=>k _ ar ((aj.trans al).trans aE) (.bool _)) h0
theorem eI8 {t:IT} (ht:Tk C lev Γ ns t sc x1) (ha:Vk C lev Γ ns a sc x2) (hb:Vk C lev Γ ns b sc x3):Vk C lev Γ ns (.ite t a b) sc (.IfExp x1 x2 x3 p):=fun X hs =>
 Al.bind fun c e1 d hd Q E k=>wpAny_IfExp ((ht X hs _ e1).then X fun aa aj _ aB=>by
  cases c with
  | true=>exact ha aB hs _ hd Q E fun v ai al r=>k v ai (aj.trans al) r
  | false=>exact hb aB hs _ hd Q E fun v ai al r=>k v ai (aj.trans al) r)
theorem dX8 {es:IEs} {xs:List Expr} (p:Pos) (env:Env) (h:Vks C lev Γ ns sc es xs):(backTo p (starEach xs env)).any (·.1)=false:=by
 induction h with
 | nil=>rfl
 | cons h0 _ _ ih=>rw [aA5 h0,List.any_cons,ih];rfl
theorem bK2 {es:IEs} {xs:List Expr} (h:Vks C lev Γ ns sc es xs):∀ {tr:Bool} {A:Around} {env:Env} {ρ:Ro} {Mu:Addr→Bool} {s:Shared} {p:Pos},Cx C lev Γ ns A env ρ Mu s→env.scope=sc→Al (evs Γ es tr ρ) (Sp C A (bB9 tr Mu) (spliced (backTo p (starEach xs env))) s):=by
 induction h with
 | nil=>exact fun X hs=>Al.some fun Q E k=>spliced_nil (k _ _ (.refl _) (Nat.le_refl _) .nil)
 | cons h0 he _ ih =>
  intro tr A env ρ Mu s p X hs
  refine Al.bind fun _ e1=>Al.map fun _ e2 Q E k=>?_
  rw [aA5 h0]
  exact spliced_cons ((he X hs _ e1).toks _ _ fun v aa aj ax r=>ih (X.go aj ax) hs _ e2 _ _ fun vs ai al aF rs=>k _ _ (aj.trans al) (aA9 ax aF) (.cons (r.go al) rs))
theorem dW7 {es:IEs} {xs:List Expr} (h:Vks C lev Γ ns sc es xs):Vk C lev Γ ns (.list es) sc (.List xs p):=fun X hs =>
 Al.bind fun ds e1=>Al.ite fun hz=>Al.some fun Q E k=>wpAny_List_spliced (bK2 h X hs _ e1 _ _ fun vs s' g t r=>⟨r.length ▸ aA9 hz (by decide),k _ _ (g.trans (.push _)) (.lst (Fz.push (C:=C) (aM0 (X.go g t).mu) rfl) (r.mono (.ext (Go.push (C:=C) (s:=s') _ (d:=s'.drawn) (tk:=s'.toks)).ext)))⟩)
theorem eI3 {es:IEs} {xs:List Expr} (h:Vks C lev Γ ns sc es xs):Vk C lev Γ ns (.tup es) sc (.Tuple xs n p):=fun X hs =>
 Al.bind fun ds e1=>Al.ite fun hz=>Al.some fun Q E k=>wpAny_Tuple_spliced (bK2 h X hs _ e1 _ _ fun vs s' g t r=>⟨r.length ▸ aA9 hz (by decide),k _ _ (g.trans (.push _)) (.tup (Fz.push (C:=C) (aM0 (X.go g t).mu) rfl) (r.mono (.ext (Go.push (C:=C) (s:=s') _ (d:=s'.drawn) (tk:=s'.toks)).ext)))⟩)
theorem dM3:Vk C lev Γ ns .dict0 sc (.Dict [] [] p):=fun X _=>Al.some (cI9 (aM0 X.mu) X.ok)
theorem Al.keyInt {β:Type} {T:β→Prop} {o:Option Key} {d:D} {f:Key→Int→Option β} (h:∀ k i,o=Option.some k→d=.int i→Al (f k i) T):Al (match o,d with | Option.some k,.int i=>f k i | _,_=>Option.none) T:=by
 cases o with
 | none=>exact Al.none
 | some k=>cases d with
  | int i=>exact h k i rfl rfl
  | _=>exact Al.none
theorem dM2 (ha:Vk C lev Γ ns a sc x1) (hb:Vk C lev Γ ns b sc x2):Vk C lev Γ ns (.dict1 a b) sc (.Dict [some x1] [x2] p):=by
 intro tr A env ρ Mu s X hs
 refine Al.bind fun da e1=>Al.bind fun db e2=>Al.keyInt fun key i hk ed=>Al.some ?_
 subst ed
 refine bT2 (pairs:=[(eval x1 env,(do let x ← eval x2 env;standAt p;pure x))]) (aM0 X.mu) X.ok (List.nodup_cons.mpr ⟨List.not_mem_nil,.nil⟩) rfl (List.cons_ne_nil _ _) (by decide:1≤15) fun aa aj ax hobj Q E k=>?_
 have aB:=X.go aj ax
 refine evalPairs_cons ((ha.f aB hs e1).then aB fun kv ai al bc rk=>wpAny_bind ((hb.f bc hs e2).then bc fun vv ar aE dK rv=>wpAny_bind (wpAny_standAt (wpAny_pure (evalPairs_nil ?_)))))
 obtain ⟨tk,rfl⟩:=rv.inv
 exact k [(kv,.int i tk)] [(key,.int i tk)] ar (al.trans aE) (And.intro (aZ8 hk rk) (And.intro rfl trivial)) (.cons .nil)
theorem dM1 {kvs:List (Str × Int)} {ks:List (Option Expr)} {vs:List Expr} (h:cL1 kvs ks vs):Vk C lev Γ ns (.dictC kvs) sc (.Dict ks vs p):=by
 intro tr A env ρ Mu s X hs
 refine Al.ite fun hz=>Al.some ?_
 refine hid fun Gz zz=>?_
 obtain ⟨pairs,h1,h2,h3⟩:=h C A env p
 refine zz ?_;clear zz Gz
 refine bT2 (aM0 X.mu) X.ok ?_ h1 (fun z=>hz.2.2 ?_) (h2 ▸ hz.2.1) fun aa aj _ hobj Q E k=>h3 aa Q E fun ws pk tk hc hi=>k ws pk _ .tok hc hi
 ·have:=aO3 hz.1
  rw [List.map_map]
  rw [show (kvs.map ((fun p:Key × Int=>p.1) ∘ fun p=>(Sum.inr p.1,p.2)))=(kvs.map (·.1)).map Sum.inr by rw [List.map_map];rfl]
  exact this.map _ (fun a b h e=>h (Sum.inr.inj e))
 ·rw [z] at h2;exact List.length_eq_zero_iff.mp h2.symm
theorem eI9 (ha:Vk C lev Γ ns a sc x1) (hb:Vk C lev Γ ns b sc x2):Vk C lev Γ ns (.idx a b) sc (.Subscript x1 x2 p):=fun X hs =>
 Al.bind fun _ e1=>Al.bind fun _ e2 _ hd Q E k=>Subscript_ ((ha X hs _ e1).then X fun _ _ aj aB ru=>(hb aB hs _ e2).then aB fun _ _ al bc rv=>dK0 hd (ru.go al) rv Q E fun w ar aE r=>k w ar ((aj.trans al).trans aE) r)
theorem dW9 (ha:Vk C lev Γ ns a sc x1) (hb:Vk C lev Γ ns b sc x2):Vk C lev Γ ns (.idxO a b) sc (.Subscript x1 x2 p):=fun X hs =>
 Al.bind fun _ e1=>Al.bind fun _ e2=>Al.bind fun _ e3=>Al.ite fun hi=>Al.some fun Q E k=>Subscript_ ((ha X hs _ e1).then X fun _ _ aj aB ru=>(hb aB hs _ e2).then aB fun _ _ al bc rv=>dK0 e3 (ru.go al) rv Q E fun w ar aE r=>k w ar ((aj.trans al).trans aE) (r.imm hi))
theorem dL6 (h0:bA7 x1=true) (ha:Vk C lev Γ ns a sc x1) (hb:Vk C lev Γ ns b sc x2):Vk C lev Γ ns (.slcTo a b) sc (.Subscript x1 (.Slice none (some x2) none p) q):=fun X hs =>
 Al.bind fun _ e1=>Al.bind fun _ e2=>cZ7 X h0 (ha X hs _ e1) fun _ g t=>hb (X.go g t) hs _ e2
theorem dL7 (h0:bA7 x1=true) (ha:Vk C lev Γ ns a sc x1) (hb:Vk C lev Γ ns b sc x2) (hc:Vk C lev Γ ns c sc x3):Vk C lev Γ ns (.slcFT a b c) sc (.Subscript x1 (.Slice (some x2) (some x3) none p) q):=fun X hs =>
 Al.bind fun _ e1=>Al.bind fun _ e2=>Al.bind fun _ e3=>cZ8 X h0 (ha X hs _ e1) (fun _ g t=>hb (X.go g t) hs _ e2) fun _ g t=>hc (X.go g t) hs _ e3
theorem dX2 {k:Nat} {f:Fn} {es:IEs} {xs:List Expr} (hf:Γ[k]?=some f) (hg:aC4 sc y f.name=true) (hn:(f.name == ("applies_to":Str))=false) (h:Vks C lev Γ ns sc es xs) (hne:xs.isEmpty=false):Vk C lev Γ ns (.call k es) sc (.Call (.Name y p) xs [] q):=by
 intro tr A env ρ Mu s X hs
 refine Al.bind fun ds e1=>Al.bind fun f' e2 d hd Q E k=>?_
 cases hf.symm.trans e2
 refine hid fun Gz zz=>?_
 obtain ⟨rfl,hk,hdb⟩:=aN2 (gAt hs hg)
 obtain ⟨a,hmg,_,hkeep,hcall⟩:=X.fns.fn _ f hf
 refine zz ?_;clear zz Gz
 have hargs:=bK2 h (tr:=false) (p:=q) X hs ds e1
 refine wpAny_Call_NameR (aM4 X hk hdb (hmg (beq_eq_false_iff_ne.mp hn)) ?_)
 cases h with
 | nil=>cases hne
 | cons h0 he ht =>
  refine callWith_of (P:=fun h=>C.K.In h) (by rw [dX8 q env (.cons h0 he ht)];rfl) (keeps_K hkeep) ?_
  rw [aA5 h0] at hargs ⊢
  refine evalArgs_plain (hargs _ _ fun vs aa aj ax r=>?_)
  have aB:=X.go aj ax
  rw [aH7] at r
  exact ⟨aB.ok.top.kin,cU8 (tr:=tr) aB hcall r hd Q E fun v ai al bw=>k v ai (aj.trans al) bw⟩
theorem cE6 {k:Nat} {f:Fn} (hf:Γ[k]?=some f) (hg:aC4 sc y f.name=true) (hn:(f.name == ("applies_to":Str))=false) (h:Vk C lev Γ ns a sc x):Vk C lev Γ ns (.callStar k a) sc (.Call (.Name y p) [.Starred x p1] [] q):=by
 intro tr A env ρ Mu s X hs
 refine Al.bind fun dd e1=>Al.bind fun f' e2=>Al.lst fun ds ed=>Al.ite fun hz d hd Q E k=>?_
 cases hf.symm.trans e2
 subst ed
 refine hid fun Gz zz=>?_
 obtain ⟨rfl,hk,hdb⟩:=aN2 (gAt hs hg)
 obtain ⟨a,hmg,_,hkeep,hcall⟩:=X.fns.fn _ f hf
 refine zz ?_;clear zz Gz
 refine wpAny_Call_NameR (aM4 X hk hdb (hmg (beq_eq_false_iff_ne.mp hn)) ?_)
 refine callWith_S X.ok.top.kin hkeep ((h.f X hs e1).then X fun v aa aj aB r=>?_)
 obtain ⟨l,vs,n,rfl,el,rl⟩:=aZ3 r
 have hlen:=rl.length
 refine cN6 el (hlen ▸ aA9 hz (by decide)) fun h' hk'=>?_
 have al:Go C aa { aa with heap:=h' }:=Go.keep (d:=aa.drawn) (tk:=aa.toks) hk'
 have bc:=aB.go al (Nat.le_refl _)
 exact ⟨bc.ok.top.kin,cU8 (tr:=tr) bc hcall (rl.go al) hd Q E fun v ar aE cB=>k v ar ((aj.trans al).trans aE) cB⟩
theorem eI7 (hg:aC4 sc y "len"=true) (h0:aA8 x=true) (h:Vk C lev Γ ns a sc x):Vk C lev Γ ns (.len a) sc (.Call (.Name y p) [x] [] q):=fun X hs =>
 Al.bind fun _ e1 _ hd Q E k=>cU9 X h0 (gAt hs hg) (by decide) (by rfl) (by decide) (h X hs _ e1) fun v aa aj aB r=>eB4 hd r Q E fun w ai al bw=>k w ai (aj.trans al) bw
theorem dL4 (h0:(p.endLine == q.line)=true) (h1:aJ6 x) (h:Vk C lev Γ ns a sc x):Vk C lev Γ ns (.upper a) sc (.Call (.Attribute x "upper" p) [] [] q):=fun X hs =>
 Al.bind fun _ e1=>Al.str fun y ed=>Al.ite fun hz=>Al.some fun Q E k=>bQ1 X F.slot_str_upper F.type_str_upper h0 h1 (ed ▸ h X hs _ e1) fun t aa aj=>SCL.upper (aA9 hz (by decide)) fun _=>k _ _ (aj.trans .tok) (.str _ _)
theorem dL8 (h0:(p.endLine == q.line)=true) (h1:aJ6 x) (h:Vk C lev Γ ns a sc x):Vk C lev Γ ns (.lower a) sc (.Call (.Attribute x "lower" p) [] [] q):=fun X hs =>
 Al.bind fun _ e1=>Al.str fun y ed=>Al.ite fun hz=>Al.some fun Q E k=>bQ1 X F.slot_str_lower F.type_str_lower h0 h1 (ed ▸ h X hs _ e1) fun t aa aj=>SCL.lower (aA9 hz (by decide)) fun _=>k _ _ (aj.trans .tok) (.str _ _)
theorem dW8 (h0:(p.endLine == q.line)=true) (h1:aA8 x=true) (h:Vk C lev Γ ns a sc x):Vk C lev Γ ns (.join y a) sc (.Call (.Attribute (.Constant (.str y) n p1) "join" p) [x] [] q):=fun {tr A env ρ Mu s} X hs =>
 Al.bind fun _ e1=>Al.lst fun ds ed=>Al.bind fun xs e2=>Al.ite fun hz=>Al.some fun Q E k =>
  cN5 X F.slot_str_join F.type_str_join h0 (fun _ _ _=>rfl) h1 (Mu:=bB9 true Mu) (x:=y) (fun Q E k=>Constant_str (k _ _ .tok (.str _ _))) (fun s' g X'=>ed ▸ h X' hs _ e1) fun t v aa aj aB r=>by
   refine hid fun Gz zz=>?_
   obtain ⟨l,vs,n,rfl,el,rl⟩:=aZ3 r
   obtain ⟨l',rfl,hl'⟩:=bD4 rl e2
   refine zz ?_;clear zz Gz
   exact SC.join (aI6 el) hl' hz fun t' kk=>k _ _ (aj.trans .tok) (.str _ _)
theorem dW5 (h0:(p.endLine == q.line)=true) (h1:aJ6 x) (h:Vk C lev Γ ns a sc x):Vk C lev Γ ns (.repl a y z) sc (.Call (.Attribute x "replace" p) [.Constant (.str y) n1 p1,.Constant (.str z) n2 p2] [] q):=fun X hs =>
 Al.bind fun _ e1=>Al.str fun y ed=>Al.ite fun hz=>Al.some fun Q E k=>bV8 X F.slot_str_replace F.type_str_replace h0 h1 (ed ▸ h X hs _ e1) fun t aa aj ax =>
  SC.replaceW (Nat.ne_of_gt ax) (Nat.succ_ne_zero _) (Nat.ne_of_lt (Nat.lt_succ_self _)) hz.2.2 (aA9 hz.1 (by decide)) hz.2.1 fun t' kk=>k _ _ (aj.trans .tok) (.str _ _)
theorem dL5 (h0:(p.endLine == q.line)=true) (h1:aJ6 x) (h:Vk C lev Γ ns a sc x):Vk C lev Γ ns (.splitS a y) sc (.Call (.Attribute x "split" p) [.Constant (.str y) n1 p1] [] q):=fun {tr A env ρ Mu s} X hs =>
 Al.bind fun _ e1=>Al.str fun y ed=>Al.ite fun hz=>Al.some fun Q E k=>cF1 X F.slot_str_split F.type_str_split h0 h1 (ed ▸ h X hs _ e1) fun t aa aj ax =>
  cZ6 (C:=C) (Mu:=bB9 tr Mu) (s:={ aa with toks:=aa.toks+1 }) (aM0 (X.mu.ext aj.ext)) hz.1 hz.2 Q E fun w ai al bw=>k w ai (aj.trans ((Go.tok (s:=aa) (d:=aa.drawn) (tk:=aa.toks+1)).trans al)) bw
theorem eI5 (hg:aC4 sc y "_twin_re_1"=true):Vk C lev Γ ns .pat sc (.Name y p):=fun X hs=>Al.some fun Q E k=>by
 obtain ⟨rfl,hk,hdb⟩:=aN2 (gAt hs hg)
 exact aM4 X hk hdb C.patN (k _ _ (.refl _) .pat)
theorem cM2 (h0:(p.endLine == q.line)=true) (h1:aJ6 x1) (h2:aA8 x2=true) (ha:Vk C lev Γ ns a sc x1) (hb:Vk C lev Γ ns b sc x2):Vk C lev Γ ns (.reSplit a b) sc (.Call (.Attribute x1 "split" p) [x2] [] q):=by
 intro tr A env ρ Mu s X hs
 refine Al.bind fun da e1=>Al.bind fun db e2=>?_
 cases da with
 | pat=>cases db with
  | str y=>exact Al.ite fun hz=>Al.some (bQ3 X (aM0 X.mu) h0 h1 h2 (ha.t X hs e1) (fun s' g X'=>hb.t X' hs e2) hz)
  | _=>exact Al.none
 | _=>exact Al.none
theorem dX0 (h0:(p.endLine == q.line)=true) (h1:aJ6 x1) (h2:aA8 x2=true) (h3:aA8 x3=true) (ha:Vk C lev Γ ns a sc x1) (hb:Vk C lev Γ ns b sc x2) (hc:Vk C lev Γ ns c sc x3) :
  Vk C lev Γ ns (.dget a b c) sc (.Call (.Attribute x1 "get" p) [x2,x3] [] q):=by
 intro tr A env ρ Mu s X hs
 refine Al.bind fun da e1=>Al.bind fun db e2=>Al.bind fun dc e3=>?_
 cases hk:dD5 db with
 | none=>cases da<;>exact Al.none
 | some key=>cases da with
  | dct kvs=>cases dc with
   | int i=>exact Al.some (dT4 X h0 h1 h2 h3 (ha.t X hs e1) hk (fun s' g X'=>hb.t X' hs e2) (fun s' g X'=>hc.t X' hs e3))
   | _=>exact Al.none
  | _=>exact Al.none
theorem dM5 (hg:aC4 sc y "bytes"=true) (h0:aA8 x=true) (h:Vk C lev Γ ns a sc x):Vk C lev Γ ns (.bytesOf a) sc (.Call (.Name y p) [x] [] q):=fun {tr A env ρ Mu s} X hs =>
 Al.bind fun _ e1=>Al.lstBarr
  (fun ds ed=>Al.bind fun xs e2=>Al.ite fun hz=>Al.some fun Q E k=>aP0 X h0 (gAt hs hg) (by decide) (by rfl) (by decide) ((h X hs _ e1).then X fun v aa aj aB r=>by
   subst ed
   obtain ⟨l,vs,n,rfl,el,rl⟩:=aZ3 r
   exact dG9 (Mu:=bB9 tr Mu) aB.room.handled el rl e2 hz.1 hz.2 Q E fun w ai al bw=>k w ai (aj.trans al) bw))
  (fun b ed=>Al.ite fun hz=>Al.some fun Q E k=>aP0 X h0 (gAt hs hg) (by decide) (by rfl) (by decide) ((h X hs _ e1).then X fun v aa aj aB r=>bO2 (Mu:=bB9 tr Mu) (ed ▸ r) hz Q E fun w ai al bw=>k w ai (aj.trans al) bw))
theorem cY5:Vk C lev Γ ns (.barrOf a) sc x:=fun _ _=>Al.none
theorem cM3 (hg:aC4 sc y "list"=true) (hg':aC4 sc z "reversed"=true) (h0:aA8 x=true) (h:Vk C lev Γ ns a sc x):Vk C lev Γ ns (.listRev a) sc (.Call (.Name y p) [.Call (.Name z p1) [x] [] p2] [] q):=fun X hs =>
 Al.bind fun _ e1=>Al.lst fun ds ed=>Al.ite fun hz=>Al.some fun Q E k =>
  aP0 (id:="list") X rfl (gAt hs hg) (by decide) (by rfl) (by decide) (aP0 (id:="reversed") X h0 (gAt hs hg') (by decide) (by rfl) (by decide) ((h X hs _ e1).then X fun v aa aj aB r=>by
   subst ed
   obtain ⟨l,vs,n,rfl,e,rl⟩:=r.inv
   exact cH8 aB.room.handled (aM0 aB.mu) e rl hz fun w ai al bw=>k w ai (aj.trans al) bw))
theorem dJ8 {tr:Bool} {A:Around} {env:Env} {ρ:Ro} {Mu:Addr→Bool} {s:Shared} {id:String} {d:D} (X:Cx C lev Γ ns A env ρ Mu s) (hg:aC4 env.scope y "isinstance"=true) (hg':aC4 env.scope z (Str.ofString id)=true) (h0:aA8 x=true)
  (hm:Str.ofString id∈aL7) (hb:bootBuiltins (Str.ofString id)=some (.type id)) (hn:Str.ofString id≠"__name__") (h:PE C A (bB9 tr Mu) (eval x env) s d) {Q E:Value→Shared→Prop}
  (k:∀ v aa,Go C s aa→Cx C lev Γ ns A env ρ Mu aa→Rd C (Fz aa.heap (bB9 tr Mu)) v d→wpAny (model C.prog C.w) A (call (.builtin "isinstance") [v,.type id]) Q E aa):wpAny (model C.prog C.w) A (eval (.Call (.Name y p) [x,.Name z p1] [] q) env) Q E s:=by
 obtain ⟨rfl,hk,hdb⟩:=aN2 hg
 obtain ⟨rfl,hk',hdb'⟩:=aN2 hg'
 refine wpAny_Call_NameR (aL4 X hk hdb (by decide) (v:=.builtin "isinstance") (by rfl) (by decide) ?_)
 rw [aA5 h0,aA5 (x:=.Name _ _) rfl,aD9]
 exact callWith_builtin rfl (evalArgs_plain (spliced_cons (h.then X fun v aa aj aB r=>spliced_cons (aL4 aB hk' hdb' hm (v:=.type id) hb hn (spliced_nil (k v aa aj aB r))))))
theorem cM4 (hg:aC4 sc y "isinstance"=true) (hg':aC4 sc z "bytes"=true) (h0:aA8 x=true) (h:Vk C lev Γ ns a sc x):Vk C lev Γ ns (.isBytes a) sc (.Call (.Name y p) [x,.Name z p1] [] q):=fun X hs =>
 Al.bind fun _ e1=>Al.bytes fun b ed=>Al.some fun Q E k=>dJ8 (id:="bytes") X (gAt hs hg) (gAt hs hg') h0 (by decide) (by rfl) (by decide) (h X hs _ e1) fun v aa aj aB r=>by
  subst ed
  obtain ⟨t,rfl⟩:=r.inv
  exact kia_one kitx_bytes aB.ok.top.kin trivial (if_pos (by decide)) nofun fun tk=>k _ _ (aj.trans .tok) (.bool _)
theorem dL9 (hg:aC4 sc y "isinstance"=true) (hg':aC4 sc z "tuple"=true) (h0:aA8 x=true) (h:Vk C lev Γ ns a sc x):Vk C lev Γ ns (.isTup a) sc (.Call (.Name y p) [x,.Name z p1] [] q):=fun X hs =>
 Al.bind fun _ e1=>Al.int fun b ed=>Al.some fun Q E k=>dJ8 (id:="tuple") X (gAt hs hg) (gAt hs hg') h0 (by decide) (by rfl) (by decide) (h X hs _ e1) fun v aa aj aB r=>by
  cases ed
  obtain ⟨t,rfl⟩:=r.inv
  exact kia_one kitx_int aB.ok.top.kin trivial X.kit.tup nofun fun tk=>k _ _ (aj.trans .tok) (.bool _)
theorem cY6 (h:Vk C lev Γ ns a sc (.Name y p)):Vk C lev Γ ns (.agents a) sc (.Attribute (.Name y p) "useragents" q):=fun X hs =>
 Al.bind fun _ e1=>Al.ent fun ds ed=>Al.some fun Q E k=>Attribute_name ((h X hs _ e1).then X fun v aa aj aB r=>by
  subst ed
  refine hid fun Gz zz=>?_
  obtain ⟨a,dx,l,es,n,vs,m,rfl,I,hu,_,hl,rl⟩:=cS2 r
  obtain ⟨u1,u2,u3⟩:=C.ua
  refine zz ?_;clear zz Gz
  exact get_value aB.ok.top.kin I (plainGet_of u1).1 (findObj_own u2 u3 rfl hu) rfl (k _ _ (aj.trans .tok) (.lst hl rl)))
theorem cM5 {k:Nat} {f:Fn} (hf:Γ[k]?=some f) (hfn:f.name=("applies_to":Str)) (h0:(p1.endLine == q.line)=true) (h1:aA8 x2=true) (ha:Vk C lev Γ ns a sc (.Name y p)) (hb:Vk C lev Γ ns b sc x2) :
  Vk C lev Γ ns (.applies k a b) sc (.Call (.Attribute (.Name y p) "applies_to" p1) [x2] [] q):=by
 intro tr A env ρ Mu s X hs
 refine Al.bind fun da e1=>Al.bind fun db e2=>Al.bind fun f' e3=>Al.ent fun ds ed=>Al.bind fun d' e4=>Al.ite fun hi=>Al.some fun Q E k=>?_
 cases ed
 cases hf.symm.trans e3
 refine hid fun Gz zz=>?_
 obtain ⟨af,_,hmeth,hkeep,hcall⟩:=X.fns.fn _ f hf
 obtain ⟨m1,m2,m3⟩:=hmeth hfn
 refine zz ?_;clear zz Gz
 have hb1:(backTo q (starEach [x2] env)).any (·.1)=false:=by rw [aA5 h1];rfl
 refine aT2 rfl h0 ((aA5 h1) ▸ rfl) ((ha.t X hs e1).then X fun v aa aj aB rr=>fun pl=>?_)
 refine hid fun Gz zz=>?_
 obtain ⟨a,dx,l,es,n,vs,m,rfl,I,hu,hn,hl,rl⟩:=cS2 rr
 refine zz ?_;clear zz Gz
 refine method_fn aB.ok.top.kin I (plainGet_of m3).1 (plainGet_of m3).2 m1 (beq_iff_eq.mp m2) (by show (lookIn _ (dictOf es n)).map _=_;rw [lookIn_dict,hn];rfl) ?_
 refine callWith_of (P:=fun h=>C.K.In h) (by rw [hb1];rfl) (keeps_K hkeep) ?_
 rw [aA5 h1,aD9]
 exact evalArgs_plain (spliced_cons ((hb.t aB hs e2).then aB fun v ai al bc rv=>spliced_nil ⟨bc.ok.top.kin,wpAny_call (hcall _ noMu ai _ _ _ bc.room bc.ok bc.tok (.noMu C _) (.cons (rr.go al) (.cons rv .nil)) e4 _ fun w ar aE cB=>k w ar ((aj.trans al).trans aE) (cB.imm hi))⟩))
theorem eJ4 {op:COp} (h0:behindInMarks (aU6 op) x2=false) (ha:Vk C lev Γ ns a sc x1) (hb:Vk C lev Γ ns b sc x2):Tk C lev Γ ns (.cmp op a b) sc (.Compare x1 [aU6 op] [x2] p):=fun X hs =>
 Al.bind fun _ e1=>Al.bind fun _ e2 _ hd Q E k=>wpAny_isTrue_Compare1 ((ha X hs _ e1).then X fun _ _ aj aB ru=>(hb aB hs _ e2).then aB fun _ _ al bc rv =>
  cC9 bc.room.room op hd (ru.go al) rv _ E fun ar aE _=>wpAny_truthy_bool (k ar ((aj.trans al).trans aE))) h0
theorem dN2 {o1 o2:COp} (h0:behindInMarks (aU6 o2) x3=false) (ha:Vk C lev Γ ns a sc x1) (hb:Vk C lev Γ ns b sc x2) (hc:Vk C lev Γ ns c sc x3):Tk C lev Γ ns (.chain a o1 b o2 c) sc (.Compare x1 [aU6 o1,aU6 o2] [x2,x3] p):=fun X hs =>
 Al.bind fun _ e1=>Al.bind fun _ e2=>Al.bind fun t e3 d hd Q E k=>eE6 h0 ((ha X hs _ e1).then X fun _ _ aj aB ru=>(hb aB hs _ e2).then aB fun _ ai al bc rv =>
  wpAny_with_toks (n:=ai.toks) (Nat.le_refl _) (cC9 bc.room.room o1 e3 (ru.go al) rv _ _ fun ar aE _ bP=>wpAny_truthy_bool (by
   cases t with
   | false=>obtain rfl:=Option.some.inj hd;exact k ar ((aj.trans al).trans aE)
   | true =>
    obtain ⟨dc,e4,hd⟩:=Option.bind_eq_some_iff.mp (hd:((ev Γ c true _).bind fun z=>bG5 o2 _ z)=_)
    have dK:=bc.go aE bP
    exact (hc dK hs _ e4).then dK fun _ _ bK eX rw'=>cC9 eX.room.room o2 hd (rv.go (aE.trans bK)) rw' _ E fun bU eY _=>wpAny_truthy_bool (k bU ((((aj.trans al).trans aE).trans bK).trans eY)))))
theorem eJ3 {t:IT} (h:Tk C lev Γ ns t sc x):Tk C lev Γ ns (.not t) sc (.UnaryOp .Not x p):=fun X hs=>Al.map fun _ e1 Q E k=>wpAny_isTrue_Not (h X hs _ e1 _ _ k)
noncomputable def cQ7:Expr→Bool
 | .UnaryOp ..=>false | .BoolOp ..=>false | .IfExp ..=>false | .Compare ..=>false | _=>true
theorem eQ6 (h0:cQ7 x=true) (h:Vk C lev Γ ns a sc x):Tk C lev Γ ns (.tr a) sc x:=fun X hs=>Al.bind fun _ e1 _ hd Q E k =>
 wpAny_isTrue_value ((h X hs _ e1).then X fun v aa aj aB r=>bP9 hd r fun ai al=>k ai (aj.trans al)) (bS3 h0 _ _)
theorem aM2 {G:aU7} {v:Value} {i:Int} (r:Rd C G v (.int i)):∃ t,v=.int i t:=r.inv
theorem dY3 {G:aU7} {v:Value} {ds:List D} (r:Rd C G v (.lst ds)):∃ a vs n,v=.ref a∧G a=some (aB2 vs n)∧RdL C G vs ds:=r.inv
theorem cC6 {i:Nat} {it:It} {ifs:ITs} {xs:List Expr} {sc':Scope} (h0:ns[i]?=some y) (h1:aY3 sc' sc [y]=true) (h2:aP3 x1) (he:Vk C lev Γ ns a (aE2 sc' sc) x) (hi:Ik C lev Γ ns it sc x1) (ht:∀ {A:Around} {env:Env} {ρ:Ro} {Mu:Addr→Bool} {s:Shared},Cx C lev Γ ns A env ρ Mu s→env.scope=aE2 sc' sc→Al (dJ0 Γ ifs ρ) fun b=>∀ (Q:Bool→Shared→Prop) (E:Value→Shared→Prop),(∀ s',Go C s s'→s.toks≤s'.toks→Q b s') →
   wpAny (model C.prog C.w) A (forIn xs true fun c r=>if r=true then do let ok ← isTrue c env (eval c env);pure (ForInStep.yield ok) else pure (ForInStep.yield r)) Q E s)
  {A:Around} {env:Env} {ρ:Ro} {Mu:Addr→Bool} {s:Shared} {p':Pos} {use:Option (Value→Sem Unit)} (X:Cx C lev Γ ns A env ρ Mu s) (hs:env.scope=sc):Al (ev Γ (.comp a i it ifs) false ρ) fun d=>∀ Q E:Value→Shared→Prop,
  (∀ rs D L s' vs n,d=.lst rs→Go C s s'→s.toks≤s'.toks→s.heap.get? D=none→s.heap.get? L=none→D≠L→(∃ m,s'.heap.Ns L m)→(∃ o,s'.heap.get? L=some o∧aL8 o)→s'.heap.get? D=some (aB2 vs n)→RdL C (Fz s'.heap fun a=>Mu a || a == L) vs rs →
   compPost (model C.prog C.w) A E use Q (.ref D) L (.ok .next) s') →
  wpAny (model C.prog C.w) A (comprehension (.ListComp x [⟨.Name y p1,x1,xs,0⟩] sc' p) sc' env p' (newList []) false (eval x1 env) use) Q E s:=by
 subst hs
 refine Al.bind fun ds e1=>Al.ite fun hz=>Al.map fun rs e2 Q E hR=>?_
 exact bT5 X (bT6 h1) h2 (hi X rfl _ e1) hz (cN2 h0) (fun _ _ _ _ _ _ _ _ _ _ _ _ _ _ h=>wpAny_pure h)
  (fun cenv Mv ao s b hsc X' hb=>ht X' hsc b hb) (fun cenv Mv ao s d hsc X' hb=>he.f X' hsc hb) e2 fun D L s' vs n=>hR rs D L s' vs n rfl
theorem bV4 {ts:ITs} {xs:List Expr} (h:Tks C lev Γ ns sc ts xs):∀ {A:Around} {env:Env} {ρ:Ro} {Mu:Addr→Bool} {s:Shared},Cx C lev Γ ns A env ρ Mu s→env.scope=sc→Al (dJ0 Γ ts ρ) fun b=>∀ (Q:Bool→Shared→Prop) (E:Value→Shared→Prop),(∀ s',Go C s s'→s.toks≤s'.toks→Q b s') →
   wpAny (model C.prog C.w) A (forIn xs true fun c r=>if r=true then do let ok ← isTrue c env (eval c env);pure (ForInStep.yield ok) else pure (ForInStep.yield r)) Q E s:=by
 induction h with
 | nil=>exact fun X hs=>Al.some fun Q E k=>wpAny_tests_nil (k _ (.refl _) (Nat.le_refl _))
 | cons ht _ ih =>
  intro A env ρ Mu s X hs
  refine Al.bind fun c e1 b hd Q E k=>cE8 ((ht X hs _ e1).then X fun aa aj ax aB=>?_)
  cases c with
  | true=>exact ih aB hs _ hd _ _ fun ai al aF=>k ai (aj.trans al) (aA9 ax aF)
  | false=>obtain rfl:=Option.some.inj hd;exact k aa aj ax
theorem bV6 {ts:ITs} {xs:List Expr} (h:Tks C lev Γ ns sc ts xs) (op:BoolOp):∀ {A:Around} {env:Env} {ρ:Ro} {Mu:Addr→Bool} {s:Shared},Cx C lev Γ ns A env ρ Mu s→env.scope=sc→Al (aP5 Γ (decide (op=.And)) ts ρ) (PB C A (allTrue op xs env) s):=by
 induction h with
 | nil =>
  intro A env ρ Mu s X hs
  refine Al.some fun Q E k=>?_
  cases op with
  | And=>exact wpAny_allTrue_And_nil (k _ (.refl _))
  | Or=>exact wpAny_allTrue_Or_nil (k _ (.refl _))
 | cons ht _ ih =>
  intro A env ρ Mu s X hs
  refine Al.bind fun c e1 b hd Q E k=>?_
  cases op with
  | And =>
   refine wpAny_allTrue_And_cons ((ht X hs _ e1).then X fun aa aj _ aB=>?_)
   cases c with
   | true=>exact ih aB hs _ hd _ _ fun ai al=>k ai (aj.trans al)
   | false=>obtain rfl:=Option.some.inj hd;exact k aa aj
  | Or =>
   refine wpAny_allTrue_Or_cons ((ht X hs _ e1).then X fun aa aj _ aB=>?_)
   cases c with
   | false=>exact ih aB hs _ hd _ _ fun ai al=>k ai (aj.trans al)
   | true=>obtain rfl:=Option.some.inj hd;exact k aa aj
theorem cI6 {es:IEs} {xs:List Expr} (h:Vks C lev Γ ns sc es xs) (op:BoolOp):∀ {tr:Bool} {A:Around} {env:Env} {ρ:Ro} {Mu:Addr→Bool} {s:Shared},Cx C lev Γ ns A env ρ Mu s→env.scope=sc→Al (bX9 Γ (decide (op=.And)) es tr ρ) (PE C A (bB9 tr Mu) (boolOp p op (evalEach xs env)) s):=by
 induction h with
 | nil=>exact fun X hs=>Al.none
 | cons _ he h2 ih =>
  intro tr A env ρ Mu s X hs
  cases h2 with
  | nil=>exact Al.bind fun _ e1=>Al.some (he X hs _ e1)
  | cons _ _ _ =>
   refine Al.bind fun da e1=>Al.bind fun t e2 d hd Q E k=>?_
   refine bY2 ((he X hs _ e1).then X fun v aa aj aB r=>wpAny_with_toks (n:=aa.toks) (Nat.le_refl _) (bP9 e2 r fun ai al aF=>?_))
   by_cases ht:t=decide (op=.And)
   ·rw [if_pos ht] at hd ⊢
    exact ih (aB.go al aF) hs _ hd _ _ fun w ar aE rw'=>k w ar ((aj.trans al).trans aE) rw'
   ·rw [if_neg ht] at hd ⊢
    obtain rfl:=Option.some.inj hd
    exact k v ai (aj.trans al) (r.go al)
theorem dM6 {op:BoolOp} {isAnd:Bool} {es:IEs} {xs:List Expr} (ho:isAnd=decide (op=.And)) (h:Vks C lev Γ ns sc es xs):Vk C lev Γ ns (.bools isAnd es) sc (.BoolOp op xs p):=by
 intro tr A env ρ Mu s X hs
 rw [arm_eval_BoolOp,ho]
 exact cI6 h op X hs
theorem dN3 {op:BoolOp} {isAnd:Bool} {ts:ITs} {xs:List Expr} (ho:isAnd=decide (op=.And)) (h:Tks C lev Γ ns sc ts xs):Tk C lev Γ ns (.bools isAnd ts) sc (.BoolOp op xs p):=fun X hs d hd Q E k =>
 wpAny_isTrue_BoolOp (bV6 h op X hs d (ho ▸ hd) Q E k)
theorem dX1 {i:Nat} {it:It} {ifs:ITs} {xs:List Expr} {sc':Scope} (h0:ns[i]?=some y) (h1:aY3 sc' sc [y]=true) (h2:aP3 x1) (he:Vk C lev Γ ns a (aE2 sc' sc) x) (hi:Ik C lev Γ ns it sc x1) (ht:Tks C lev Γ ns (aE2 sc' sc) ifs xs) :
  Vk C lev Γ ns (.comp a i it ifs) sc (.ListComp x [⟨.Name y p1,x1,xs,0⟩] sc' p):=by
 intro tr A env ρ Mu s X hs d hd Q E k
 rw [eval_ListComp]
 exact cC6 (use:=none) h0 h1 h2 he hi (bV4 ht) X hs d hd Q E fun rs D L s' vs n z=>cC7 (tr:=tr) X (z ▸ k) D L s' vs n
theorem dM4 {i j:Nat} {it:It} {ifs:ITs} {xs:List Expr} {sc':Scope} (h0:ns[i]?=some y) (h0':ns[j]?=some z) (hyz:y≠z) (h1:aY3 sc' sc [y,z]=true) (h2:aP3 x1) (he:Vk C lev Γ ns a (aE2 sc' sc) x) (hi:Ik C lev Γ ns it sc x1) (ht:Tks C lev Γ ns (aE2 sc' sc) ifs xs) :
  Vk C lev Γ ns (.comp2 a i j it ifs) sc (.ListComp x [⟨.Tuple [.Name y p1,.Name z p2] n p3,x1,xs,0⟩] sc' p):=by
 intro tr A env ρ Mu s X hs
 subst hs
 refine Al.bind fun ds e1=>Al.ite fun hz=>Al.map fun rs e2 Q E k=>?_
 rw [eval_ListComp]
 refine bT5 (use:=none) (bnd:=cK0 i j) X (bT6 h1) h2 (hi X rfl _ e1) hz (bZ4 X.room.handled h0 h0' hyz) (fun I fp P St aa itr i j s' v Q E hst hp hq=>itr.own i j s' _ _ _ v Q E hst hp hq)
  (fun cenv Mv ao s b hsc X' hb=>bV4 ht X' hsc b hb) (fun cenv Mv ao s d hsc X' hb=>he.f X' hsc hb) ?_ (cC7 X k)
 rw [← e2]
 congr 1
 funext d
 cases d with
 | tup ds =>
  cases ds with
  | nil=>rfl
  | cons a ds =>
   cases ds with
   | nil=>rfl
   | cons b ds=>cases ds<;>rfl
 | _=>rfl
theorem eC6 (hg:aC4 sc y "range"=true) (h0:aA8 x=true) (h:Vk C lev Γ ns a sc x):Ik C lev Γ ns (.rng1 a) sc (.Call (.Name y p) [x] [] q):=fun X hs =>
 Al.bind fun _ e1=>Al.int fun b ed d hd Q E k=>aP0 (id:="range") X h0 (gAt hs hg) (by decide) (by rfl) (by decide) ((h X hs _ e1).toks _ _ fun v aa aj ax r=>by
  have aB:=X.go aj ax
  obtain ⟨tk,rfl⟩:=aM2 (ed ▸ r)
  refine call_range_1 ?_
  have gp:Go C aa { aa with heap:=aa.heap.push { cls:=.type "range",data:=.fields #[.int 0 aa.toks,.int b tk,.int 1 (aa.toks+1)] },toks:=aa.toks+1+1 }:=.push _
  exact bF1 (aB.ok.go gp) aB.room.handled (IsRange.new _ _ _ _ _ _ _) hd fun I fp P St hI itr s' g t st=>k _ I fp P St s' (aj.trans gp) (aA9 ax (Nat.le_add_right _ 2)) hI itr g t st)
theorem eC5 (hg:aC4 sc y "range"=true) (h0:aA8 x1=true) (h1:aA8 x2=true) (ha:Vk C lev Γ ns a sc x1) (hb:Vk C lev Γ ns b sc x2):Ik C lev Γ ns (.rng2 a b) sc (.Call (.Name y p) [x1,x2] [] q):=by
 intro A env ρ Mu s X hs
 refine Al.bind fun _ e1=>Al.bind fun _ e2=>Al.ints fun a' b' ed ed' d hd Q E k=>?_
 subst ed;subst ed'
 obtain ⟨rfl,hk,hdb⟩:=aN2 (gAt hs hg)
 refine wpAny_Call_NameR (aL4 X hk hdb (by decide) (v:=.type "range") (by rfl) (by decide) ?_)
 rw [aA5 h0,aA5 h1,aD9]
 refine PySem.callWith_type rfl (evalArgs_plain (spliced_cons ((ha X hs _ e1).toks _ _ fun v ah b8 cb dL=>spliced_cons ((hb (X.go b8 cb) hs _ e2).toks _ _ fun u aa aj ax r=>spliced_nil ?_))))
 have aB:=(X.go b8 cb).go aj ax
 obtain ⟨ta,rfl⟩:=aM2 dL
 obtain ⟨tb,rfl⟩:=aM2 r
 refine call_range_2 ?_
 have gp:Go C aa { aa with heap:=aa.heap.push { cls:=.type "range",data:=.fields #[.int a' ta,.int b' tb,.int 1 aa.toks] },toks:=aa.toks+1 }:=.push _
 exact bF1 (aB.ok.go gp) aB.room.handled (IsRange.new _ _ _ _ _ _ _) hd fun I fp P St hI itr s' g t st=>k _ I fp P St s' ((b8.trans aj).trans gp) (aA9 (aA9 cb ax) (Nat.le_add_right _ 1)) hI itr g t st
theorem dA1 {u v w:Int} {ds:List D} (h:cA4 u v w=some ds):1≤w∧w < 2 ^ 29 :=
 (Al.ite (T:=fun _=>1≤w∧w < 2 ^ 29) fun z=>Al.some ⟨z.1,z.2.2.2.2.2.1⟩:Al (cA4 u v w) _) ds h
theorem eC4 (hg:aC4 sc y "range"=true) (h0:aA8 x1=true) (h1:aA8 x2=true) (h2:aA8 x3=true) (ha:Vk C lev Γ ns a sc x1) (hb:Vk C lev Γ ns b sc x2) (hc:Vk C lev Γ ns c sc x3):Ik C lev Γ ns (.rng3 a b c) sc (.Call (.Name y p) [x1,x2,x3] [] q):=by
 intro A env ρ Mu s X hs
 refine Al.bind fun da e1=>Al.bind fun db e2=>Al.bind fun dc e3=>?_
 cases da with
 | int a'=>cases db with
  | int b'=>cases dc with
   | int c' =>
    intro d hd Q E k
    obtain ⟨rfl,hk,hdb⟩:=aN2 (gAt hs hg)
    refine wpAny_Call_NameR (aL4 X hk hdb (by decide) (v:=.type "range") (by rfl) (by decide) ?_)
    rw [aA5 h0,aA5 h1,aA5 h2,aD9]
    refine PySem.callWith_type rfl (evalArgs_plain (spliced_cons ((ha X hs _ e1).toks _ _ fun v ah b8 cb dL=>spliced_cons ((hb (X.go b8 cb) hs _ e2).toks _ _ fun u aa aj ax r =>
     spliced_cons ((hc ((X.go b8 cb).go aj ax) hs _ e3).toks _ _ fun u' ai al aF r'=>spliced_nil ?_)))))
    have aB:=((X.go b8 cb).go aj ax).go al aF
    obtain ⟨ta,rfl⟩:=aM2 dL
    obtain ⟨tb,rfl⟩:=aM2 r
    obtain ⟨tc,rfl⟩:=aM2 r'
    have hc:=dA1 hd
    refine call_range_3 (Int.ne_of_gt hc.1) ?_ (.inl (PyProof.noPylong_small (dS0 (cI2 (bA0 rfl) hc.1) hc.2 rfl)))
    have gp:Go C ai { ai with heap:=ai.heap.push { cls:=.type "range",data:=.fields #[.int a' ta,.int b' tb,.int c' tc] },toks:=ai.toks }:=.push _
    exact bF1 (aB.ok.go gp) aB.room.handled (IsRange.new _ _ _ _ _ _ _) hd fun I fp P St hI itr s' g t st=>k _ I fp P St s' (((b8.trans aj).trans al).trans gp) (aA9 (aA9 cb ax) aF) hI itr g t st
   | _=>exact Al.none
  | _=>exact Al.none
 | _=>exact Al.none
theorem eL9 (h:Vk C lev Γ ns a sc x):Ik C lev Γ ns (.seq a) sc x:=fun X hs=>Al.bind fun _ e1=>Al.lst fun ds ed=>Al.some fun Q E k=>(h.f X hs e1).toks _ _ fun v aa aj ax r=>by
 subst ed
 have aB:=X.go aj ax
 obtain ⟨l,vs,n,rfl,el,rl⟩:=dY3 r
 exact dD7 aB.ok aB.room.handled aB.mu el rl fun I fp P St hI itr s' g t st=>k aa I fp P St s' aj ax hI itr g t st
theorem eC3 (h0:(p1.endLine == q.line)=true) (h:Vk C lev Γ ns a sc (.Name y p)):Ik C lev Γ ns (.vals a) sc (.Call (.Attribute (.Name y p) "values" p1) [] [] q):=fun X hs=>Al.bind fun _ e1=>Al.dct fun kvs ed=>Al.some
 (dL2 (fun s' g=>X.ok.go g) X.room.handled h0 (fun _ _ _=>rfl) (ed ▸ h.f X hs e1))
end
noncomputable def bD3 (o:Expr):Chk (aJ6 o):=match o with
 | .Name ..=>yes fun _ _ _=>rfl
 | .Constant ..=>yes fun _ _ _=>rfl
 | .Subscript ..=>yes fun _ _ _=>rfl
 | .Attribute ..=>yes fun _ _ _=>rfl
 | .Call (.Attribute ..) ..=>yes fun _ _ _=>rfl
 | _=>no
noncomputable def bD7 (o:Expr):Chk (aP3 o):=match o with
 | .Name ..=>yes fun _ _=>rfl
 | .Call ..=>yes fun _ _=>rfl
 | .Subscript ..=>yes fun _ _=>rfl
 | .Attribute ..=>yes fun _ _=>rfl
 | _=>no
noncomputable def dJ7:(kvs:List (Str × Int))→(ks:List (Option Expr))→(vs:List Expr)→Chk (cL1 kvs ks vs)
 | [],ks,vs=>aJ2 (P:=fun ks=>cL1 [] ks vs) ks (aJ2 (P:=fun vs=>cL1 [] [] vs) vs (yes dD2))
 | q::r,ks,vs=>aR0 (P:=fun ks=>cL1 (q::r) ks vs) ks fun k ks=>bG8 (P:=fun k=>cL1 (q::r) (k::ks) vs) k fun k=>bU4 (P:=fun k=>cL1 (q::r) (some k::ks) vs) k fun x _ _=>aR0 (P:=fun vs=>cL1 (q::r) (some (.Constant (.str x) _ _)::ks) vs) vs fun v vs =>
   cK4 (P:=fun v=>cL1 (q::r) (some (.Constant (.str x) _ _)::ks) (v::vs)) v fun n _ _=>chP (q=(x,n)) fun h=>(dJ7 r ks vs).bind fun h'=>yes (h ▸ cR6 h')
variable (C lev Γ ns)
structure RcE where
 e:(e:IE)→(sc:Scope)→(x:Expr)→Chk (Vk C lev Γ ns e sc x)
 es:(es:IEs)→(sc:Scope)→(xs:List Expr)→Chk (Vks C lev Γ ns sc es xs)
 t:(t:IT)→(sc:Scope)→(x:Expr)→Chk (Tk C lev Γ ns t sc x)
 ts:(ts:ITs)→(sc:Scope)→(xs:List Expr)→Chk (Tks C lev Γ ns sc ts xs)
 i:(it:It)→(sc:Scope)→(x:Expr)→Chk (Ik C lev Γ ns it sc x)
noncomputable def stE (R:RcE C lev Γ ns):(e:IE)→(sc:Scope)→(x:Expr)→Chk (Vk C lev Γ ns e sc x)
 | .none,_,x=>aP1 x fun c n p=>cW2 (P:=fun c=>Vk C lev Γ ns .none _ (.Constant c n p)) c (yes dW6)
 | .bool b,_,x=>aP1 x fun c n p=>dU6 (P:=fun c=>Vk C lev Γ ns (.bool b) _ (.Constant c n p)) c fun b'=>chP (b=b') fun h=>yes (h ▸ dX3)
 | .int i,_,x=>cK4 x fun j _ _=>chP (i=j) fun h=>yes (h ▸ dM0)
 | .neg i,sc,x=>bU3 x fun o y p=>chP (.USub=o) fun ho=>cK4 (P:=fun y=>Vk C lev Γ ns (.neg i) sc (.UnaryOp o y p)) y fun j _ _=>chP (i=j) fun h=>yes (h ▸ ho ▸ eI6)
 | .str s,_,x=>bU4 x fun t _ _=>chP (s=t) fun h=>yes (h ▸ eI4)
 | .var i,sc,x=>aD3 x fun y _=>chB (aB6 ns sc i y) fun h=>yes (dL3 h)
 | .bin op a b,sc,x=>cW6 x fun l o r _=>chP (bO4 op=o) fun h=>(R.e a sc l).bind fun ha=>(R.e b sc r).bind fun hb=>yes (h ▸ eJ1 ha hb)
 | .cmp op a b,sc,x=>bH1 x fun l os rs p=>at1 (P:=fun os=>Vk C lev Γ ns (.cmp op a b) sc (.Compare l os rs p)) os fun o=>at1 (P:=fun rs=>Vk C lev Γ ns (.cmp op a b) sc (.Compare l [o] rs p)) rs fun r =>
   chP (aU6 op=o) fun h=>chP (behindInMarks (aU6 op) r=false) fun h0=>(R.e a sc l).bind fun ha=>(R.e b sc r).bind fun hb=>yes (h ▸ eJ0 h0 ha hb)
 | .bools isAnd es,sc,x=>cD5 x fun o vs _=>chP (isAnd=decide (o=.And)) fun h=>(R.es es sc vs).bind fun hs=>yes (dM6 h hs)
 | .ite t a b,sc,x=>dU5 x fun t' a' b' _=>(R.t t sc t').bind fun ht=>(R.e a sc a').bind fun ha=>(R.e b sc b').bind fun hb=>yes (eI8 ht ha hb)
 | .list es,sc,x=>cD3 x fun vs _=>(R.es es sc vs).bind fun hs=>yes (dW7 hs)
 | .tup es,sc,x=>cV8 x fun vs _ _=>(R.es es sc vs).bind fun hs=>yes (eI3 hs)
 | .dict0,sc,x=>cD4 x fun ks vs p=>aJ2 (P:=fun ks=>Vk C lev Γ ns .dict0 sc (.Dict ks vs p)) ks (aJ2 (P:=fun vs=>Vk C lev Γ ns .dict0 sc (.Dict [] vs p)) vs (yes dM3))
 | .dict1 a b,sc,x=>cD4 x fun ks vs p=>at1 (P:=fun ks=>Vk C lev Γ ns (.dict1 a b) sc (.Dict ks vs p)) ks fun k=>at1 (P:=fun vs=>Vk C lev Γ ns (.dict1 a b) sc (.Dict [k] vs p)) vs fun v =>
   bG8 (P:=fun k=>Vk C lev Γ ns (.dict1 a b) sc (.Dict [k] [v] p)) k fun k=>(R.e a sc k).bind fun ha=>(R.e b sc v).bind fun hb=>yes (dM2 ha hb)
 | .dictC kvs,_,x=>cD4 x fun ks vs _=>(dJ7 kvs ks vs).bind fun h=>yes (dM1 h)
 | .applies k a b,sc,x=>aH6 x fun o m ap as q=>aD3 (P:=fun o=>Vk C lev Γ ns (.applies k a b) sc (.Call (.Attribute o m ap) as [] q)) o fun y p=>at1 (P:=fun as=>Vk C lev Γ ns (.applies k a b) sc (.Call (.Attribute (.Name y p) m ap) as [] q)) as fun z =>
   chP ("applies_to"=m) fun hm=>bY4 Γ[k]? fun f hf=>chP (f.name="applies_to") fun hn=>chB (ap.endLine == q.line) fun h0=>chB (aA8 z) fun h1=>(R.e a sc (.Name y p)).bind fun ha=>(R.e b sc z).bind fun hb=>yes (hm ▸ cM5 hf hn h0 h1 ha hb)
 | .idx a b,sc,x=>aK0 x fun v s _=>(R.e a sc v).bind fun ha=>(R.e b sc s).bind fun hb=>yes (eI9 ha hb)
 | .idxO a b,sc,x=>aK0 x fun v s _=>(R.e a sc v).bind fun ha=>(R.e b sc s).bind fun hb=>yes (dW9 ha hb)
 | .slcTo a b,sc,x=>aK0 x fun v s q=>cW0 (P:=fun s=>Vk C lev Γ ns (.slcTo a b) sc (.Subscript v s q)) s fun l h t p=>cD2 (P:=fun l=>Vk C lev Γ ns (.slcTo a b) sc (.Subscript v (.Slice l h t p) q)) l (bG8 (P:=fun h=>Vk C lev Γ ns (.slcTo a b) sc (.Subscript v (.Slice none h t p) q)) h fun h =>
   cD2 (P:=fun t=>Vk C lev Γ ns (.slcTo a b) sc (.Subscript v (.Slice none (some h) t p) q)) t (chB (bA7 v) fun h0=>(R.e a sc v).bind fun ha=>(R.e b sc h).bind fun hb=>yes (dL6 h0 ha hb)))
 | .slcFT a b c,sc,x=>aK0 x fun v s q=>cW0 (P:=fun s=>Vk C lev Γ ns (.slcFT a b c) sc (.Subscript v s q)) s fun l h t p=>bG8 (P:=fun l=>Vk C lev Γ ns (.slcFT a b c) sc (.Subscript v (.Slice l h t p) q)) l fun l=>bG8 (P:=fun h=>Vk C lev Γ ns (.slcFT a b c) sc (.Subscript v (.Slice (some l) h t p) q)) h fun h =>
   cD2 (P:=fun t=>Vk C lev Γ ns (.slcFT a b c) sc (.Subscript v (.Slice (some l) (some h) t p) q)) t (chB (bA7 v) fun h0=>(R.e a sc v).bind fun ha=>(R.e b sc l).bind fun hb=>(R.e c sc h).bind fun hc=>yes (dL7 h0 ha hb hc))
 | .call k es,sc,x=>aH1 x fun y _ as _=>bY4 Γ[k]? fun f hf=>chB (aC4 sc y f.name) fun hg=>chP ((f.name == ("applies_to":Str))=false) fun hn=>chP (as.isEmpty=false) fun hne=>(R.es es sc as).bind fun hs=>yes (dX2 hf hg hn hs hne)
 | .callStar k a,sc,x=>aH1 x fun y p as q=>at1 (P:=fun as=>Vk C lev Γ ns (.callStar k a) sc (.Call (.Name y p) as [] q)) as fun z=>cV9 (P:=fun z=>Vk C lev Γ ns (.callStar k a) sc (.Call (.Name y p) [z] [] q)) z fun z _ =>
   bY4 Γ[k]? fun f hf=>chB (aC4 sc y f.name) fun hg=>chP ((f.name == ("applies_to":Str))=false) fun hn=>(R.e a sc z).bind fun ha=>yes (cE6 hf hg hn ha)
 | .len a,sc,x=>aH1 x fun y p as q=>at1 (P:=fun as=>Vk C lev Γ ns (.len a) sc (.Call (.Name y p) as [] q)) as fun z=>chB (aC4 sc y "len") fun hg=>chB (aA8 z) fun h0=>(R.e a sc z).bind fun ha=>yes (eI7 hg h0 ha)
 | .bytesOf a,sc,x=>aH1 x fun y p as q=>at1 (P:=fun as=>Vk C lev Γ ns (.bytesOf a) sc (.Call (.Name y p) as [] q)) as fun z=>chB (aC4 sc y "bytes") fun hg=>chB (aA8 z) fun h0=>(R.e a sc z).bind fun ha=>yes (dM5 hg h0 ha)
 | .barrOf _,_,_=>yes cY5
 | .listRev a,sc,x=>aH1 x fun y p as q=>at1 (P:=fun as=>Vk C lev Γ ns (.listRev a) sc (.Call (.Name y p) as [] q)) as fun z=>aH1 (P:=fun z=>Vk C lev Γ ns (.listRev a) sc (.Call (.Name y p) [z] [] q)) z fun u p1 bs p2 =>
   at1 (P:=fun bs=>Vk C lev Γ ns (.listRev a) sc (.Call (.Name y p) [.Call (.Name u p1) bs [] p2] [] q)) bs fun z=>chB (aC4 sc y "list") fun hg=>chB (aC4 sc u "reversed") fun hg'=>chB (aA8 z) fun h0=>(R.e a sc z).bind fun ha=>yes (cM3 hg hg' h0 ha)
 | .isBytes a,sc,x=>aH1 x fun y p as q=>at2 (P:=fun as=>Vk C lev Γ ns (.isBytes a) sc (.Call (.Name y p) as [] q)) as fun z u=>aD3 (P:=fun u=>Vk C lev Γ ns (.isBytes a) sc (.Call (.Name y p) [z,u] [] q)) u fun u _ =>
   chB (aC4 sc y "isinstance") fun hg=>chB (aC4 sc u "bytes") fun hg'=>chB (aA8 z) fun h0=>(R.e a sc z).bind fun ha=>yes (cM4 hg hg' h0 ha)
 | .isTup a,sc,x=>aH1 x fun y p as q=>at2 (P:=fun as=>Vk C lev Γ ns (.isTup a) sc (.Call (.Name y p) as [] q)) as fun z u=>aD3 (P:=fun u=>Vk C lev Γ ns (.isTup a) sc (.Call (.Name y p) [z,u] [] q)) u fun u _ =>
   chB (aC4 sc y "isinstance") fun hg=>chB (aC4 sc u "tuple") fun hg'=>chB (aA8 z) fun h0=>(R.e a sc z).bind fun ha=>yes (dL9 hg hg' h0 ha)
 | .upper a,sc,x=>aH6 x fun o m ap as q=>aJ2 (P:=fun as=>Vk C lev Γ ns (.upper a) sc (.Call (.Attribute o m ap) as [] q)) as (chP ("upper"=m) fun hm=>chB (ap.endLine == q.line) fun h0=>(bD3 o).bind fun h1=>(R.e a sc o).bind fun ha=>yes (hm ▸ dL4 h0 h1 ha))
 | .lower a,sc,x=>aH6 x fun o m ap as q=>aJ2 (P:=fun as=>Vk C lev Γ ns (.lower a) sc (.Call (.Attribute o m ap) as [] q)) as (chP ("lower"=m) fun hm=>chB (ap.endLine == q.line) fun h0=>(bD3 o).bind fun h1=>(R.e a sc o).bind fun ha=>yes (hm ▸ dL8 h0 h1 ha))
 | .join s a,sc,x=>aH6 x fun o m ap as q=>bU4 (P:=fun o=>Vk C lev Γ ns (.join s a) sc (.Call (.Attribute o m ap) as [] q)) o fun t n p=>at1 (P:=fun as=>Vk C lev Γ ns (.join s a) sc (.Call (.Attribute (.Constant (.str t) n p) m ap) as [] q)) as fun z =>
   chP ("join"=m) fun hm=>chB (ap.endLine == q.line) fun h0=>chP (s=t) fun hst=>chB (aA8 z) fun h1=>(R.e a sc z).bind fun ha=>yes (hst ▸ hm ▸ dW8 h0 h1 ha)
 | .repl a s t,sc,x=>aH6 x fun o m ap as q=>at2 (P:=fun as=>Vk C lev Γ ns (.repl a s t) sc (.Call (.Attribute o m ap) as [] q)) as fun u v=>bU4 (P:=fun u=>Vk C lev Γ ns (.repl a s t) sc (.Call (.Attribute o m ap) [u,v] [] q)) u fun s' n p =>
   bU4 (P:=fun v=>Vk C lev Γ ns (.repl a s t) sc (.Call (.Attribute o m ap) [.Constant (.str s') n p,v] [] q)) v fun t' _ _=>chP ("replace"=m) fun hm=>chB (ap.endLine == q.line) fun h0=>(bD3 o).bind fun h1=>chP (s=s') fun hs=>chP (t=t') fun ht=>(R.e a sc o).bind fun ha=>yes (hs ▸ ht ▸ hm ▸ dW5 h0 h1 ha)
 | .splitS a s,sc,x=>aH6 x fun o m ap as q=>at1 (P:=fun as=>Vk C lev Γ ns (.splitS a s) sc (.Call (.Attribute o m ap) as [] q)) as fun u=>bU4 (P:=fun u=>Vk C lev Γ ns (.splitS a s) sc (.Call (.Attribute o m ap) [u] [] q)) u fun s' _ _ =>
   chP ("split"=m) fun hm=>chB (ap.endLine == q.line) fun h0=>(bD3 o).bind fun h1=>chP (s=s') fun hs=>(R.e a sc o).bind fun ha=>yes (hs ▸ hm ▸ dL5 h0 h1 ha)
 | .pat,sc,x=>aD3 x fun y _=>chB (aC4 sc y "_twin_re_1") fun hg=>yes (eI5 hg)
 | .reSplit a b,sc,x=>aH6 x fun o m ap as q=>at1 (P:=fun as=>Vk C lev Γ ns (.reSplit a b) sc (.Call (.Attribute o m ap) as [] q)) as fun y =>
   chP ("split"=m) fun hm=>chB (ap.endLine == q.line) fun h0=>(bD3 o).bind fun h1=>chB (aA8 y) fun h2=>(R.e a sc o).bind fun ha=>(R.e b sc y).bind fun hb=>yes (hm ▸ cM2 h0 h1 h2 ha hb)
 | .dget a b c,sc,x=>aH6 x fun o m ap as q=>at2 (P:=fun as=>Vk C lev Γ ns (.dget a b c) sc (.Call (.Attribute o m ap) as [] q)) as fun y z =>
   chP ("get"=m) fun hm=>chB (ap.endLine == q.line) fun h0=>(bD3 o).bind fun h1=>chB (aA8 y) fun h2=>chB (aA8 z) fun h3=>(R.e a sc o).bind fun ha=>(R.e b sc y).bind fun hb=>(R.e c sc z).bind fun hc=>yes (hm ▸ dX0 h0 h1 h2 h3 ha hb hc)
 | .comp a i it ifs,sc,x=>cW5 x fun x tg x1 xs n sc' q hn=>aD3 (P:=fun tg=>Vk C lev Γ ns (.comp a i it ifs) sc (.ListComp x [⟨tg,x1,xs,n⟩] sc' q)) tg fun y _=>chP (ns[i]?=some y) fun h0=>chB (aY3 sc' sc [y]) fun h1=>(bD7 x1).bind fun h2 =>
   (R.e a (aE2 sc' sc) x).bind fun ha=>(R.i it sc x1).bind fun hi=>(R.ts ifs (aE2 sc' sc) xs).bind fun ht=>yes (hn ▸ dX1 h0 h1 h2 ha hi ht)
 | .comp2 a i j it ifs,sc,x=>cW5 x fun x tg x1 xs n sc' q hn=>cD1 (P:=fun tg=>Vk C lev Γ ns (.comp2 a i j it ifs) sc (.ListComp x [⟨tg,x1,xs,n⟩] sc' q)) tg fun y _ z _ _ _=>chP (ns[i]?=some y) fun h0=>chP (ns[j]?=some z) fun h0'=>chP (y≠z) fun hyz=>chB (aY3 sc' sc [y,z]) fun h1=>(bD7 x1).bind fun h2 =>
   (R.e a (aE2 sc' sc) x).bind fun ha=>(R.i it sc x1).bind fun hi=>(R.ts ifs (aE2 sc' sc) xs).bind fun ht=>yes (hn ▸ dM4 h0 h0' hyz h1 h2 ha hi ht)
 | .agents a,sc,x=>aM6 x fun o m q=>aD3 (P:=fun o=>Vk C lev Γ ns (.agents a) sc (.Attribute o m q)) o fun y p=>chP ("useragents"=m) fun hm=>(R.e a sc (.Name y p)).bind fun ha=>yes (hm ▸ cY6 ha)
noncomputable def eR0 (R:RcE C lev Γ ns):(es:IEs)→(sc:Scope)→(xs:List Expr)→Chk (Vks C lev Γ ns sc es xs)
 | .nil,_,xs=>aJ2 xs (yes .nil)
 | .cons e es,sc,xs=>aR0 xs fun x xs=>chB (aA8 x) fun h0=>(R.e e sc x).bind fun h=>(R.es es sc xs).bind fun hs=>yes (.cons h0 h hs)
noncomputable def stT (R:RcE C lev Γ ns):(t:IT)→(sc:Scope)→(x:Expr)→Chk (Tk C lev Γ ns t sc x)
 | .cmp op a b,sc,x=>bH1 x fun l os rs p=>at1 (P:=fun os=>Tk C lev Γ ns (.cmp op a b) sc (.Compare l os rs p)) os fun o=>at1 (P:=fun rs=>Tk C lev Γ ns (.cmp op a b) sc (.Compare l [o] rs p)) rs fun r =>
   chP (aU6 op=o) fun h=>chP (behindInMarks (aU6 op) r=false) fun h0=>(R.e a sc l).bind fun ha=>(R.e b sc r).bind fun hb=>yes (h ▸ eJ4 h0 ha hb)
 | .chain a o1 b o2 c,sc,x=>bH1 x fun l os rs p=>at2 (P:=fun os=>Tk C lev Γ ns (.chain a o1 b o2 c) sc (.Compare l os rs p)) os fun o o'=>at2 (P:=fun rs=>Tk C lev Γ ns (.chain a o1 b o2 c) sc (.Compare l [o,o'] rs p)) rs fun r t =>
   chP (aU6 o1=o) fun h=>chP (aU6 o2=o') fun h'=>chP (behindInMarks (aU6 o2) t=false) fun h0=>(R.e a sc l).bind fun ha=>(R.e b sc r).bind fun hb=>(R.e c sc t).bind fun hc=>yes (h ▸ h' ▸ dN2 h0 ha hb hc)
 | .bools isAnd ts,sc,x=>cD5 x fun o vs _=>chP (isAnd=decide (o=.And)) fun h=>(R.ts ts sc vs).bind fun hs=>yes (dN3 h hs)
 | .not t,sc,x=>bU3 x fun o y _=>chP (.Not=o) fun ho=>(R.t t sc y).bind fun h=>yes (ho ▸ eJ3 h)
 | .tr a,sc,x=>chB (cQ7 x) fun h0=>(R.e a sc x).bind fun h=>yes (eQ6 h0 h)
noncomputable def eQ7 (R:RcE C lev Γ ns):(ts:ITs)→(sc:Scope)→(xs:List Expr)→Chk (Tks C lev Γ ns sc ts xs)
 | .nil,_,xs=>aJ2 xs (yes .nil)
 | .cons t ts,sc,xs=>aR0 xs fun x xs=>(R.t t sc x).bind fun h=>(R.ts ts sc xs).bind fun hs=>yes (.cons h hs)
noncomputable def stI (R:RcE C lev Γ ns):(it:It)→(sc:Scope)→(x:Expr)→Chk (Ik C lev Γ ns it sc x)
 | .rng1 a,sc,x=>aH1 x fun y p as q=>at1 (P:=fun as=>Ik C lev Γ ns (.rng1 a) sc (.Call (.Name y p) as [] q)) as fun z=>chB (aC4 sc y "range") fun hg=>chB (aA8 z) fun h0=>(R.e a sc z).bind fun ha=>yes (eC6 hg h0 ha)
 | .rng2 a b,sc,x=>aH1 x fun y p as q=>at2 (P:=fun as=>Ik C lev Γ ns (.rng2 a b) sc (.Call (.Name y p) as [] q)) as fun z u=>chB (aC4 sc y "range") fun hg=>chB (aA8 z) fun h0=>chB (aA8 u) fun h1=>(R.e a sc z).bind fun ha=>(R.e b sc u).bind fun hb=>yes (eC5 hg h0 h1 ha hb)
 | .rng3 a b c,sc,x=>aH1 x fun y p as q=>at3 (P:=fun as=>Ik C lev Γ ns (.rng3 a b c) sc (.Call (.Name y p) as [] q)) as fun z u v=>chB (aC4 sc y "range") fun hg=>chB (aA8 z) fun h0=>chB (aA8 u) fun h1=>chB (aA8 v) fun h2=>(R.e a sc z).bind fun ha=>(R.e b sc u).bind fun hb=>(R.e c sc v).bind fun hc=>yes (eC4 hg h0 h1 h2 ha hb hc)
 | .seq a,sc,x=>(R.e a sc x).bind fun h=>yes (eL9 h)
 | .items _,_,_=>yes fun _ _=>Al.none
 | .vals a,sc,x=>aH6 x fun o m ap as q=>aD3 (P:=fun o=>Ik C lev Γ ns (.vals a) sc (.Call (.Attribute o m ap) as [] q)) o fun y p=>aJ2 (P:=fun as=>Ik C lev Γ ns (.vals a) sc (.Call (.Attribute (.Name y p) m ap) as [] q)) as
   (chP ("values"=m) fun hm=>chB (ap.endLine == q.line) fun h0=>(R.e a sc (.Name y p)).bind fun h=>yes (hm ▸ eC3 h0 h))
noncomputable def mtR (n:Nat):RcE C lev Γ ns:=Nat.rec ⟨fun _ _ _=>no,fun _ _ _=>no,fun _ _ _=>no,fun _ _ _=>no,fun _ _ _=>no⟩ (fun _ R=>⟨stE C lev Γ ns R,eR0 C lev Γ ns R,stT C lev Γ ns R,eQ7 C lev Γ ns R,stI C lev Γ ns R⟩) n
noncomputable abbrev mtE:=(mtR C lev Γ ns 64).e
noncomputable abbrev eL3:=(mtR C lev Γ ns 64).es
noncomputable abbrev mtT:=(mtR C lev Γ ns 64).t
noncomputable abbrev eV2:=(mtR C lev Γ ns 64).ts
noncomputable abbrev mtI:=(mtR C lev Γ ns 64).i
end
end Mine
end
section
open PySem PySem.W PyProof.Rows PySem.Calls PySem.Spec
set_option autoImplicit false
namespace Mine
noncomputable def aN0 (kvs:List (Key × Int)):List D:=kvs.map fun p=>.tup [aC9 p.1,.int p.2]
mutual
inductive IS where
 | asg (i:Nat) (e:IE)
 | asgC (i:Nat) (elt:IE) (x:Nat) (it:It) (ifs:ITs)
 | own (i:Nat) (es:IEs)
 | ownMul (i:Nat) (es:IEs) (e:IE)
 | ownDict (i:Nat)
 | ownBarr (i:Nat) (e:IE)
 | freeze (i:Nat)
 | aug (i:Nat) (op:BOp) (e:IE)
 | setIdx (i:Nat) (k v:IE)
 | augIdx (i:Nat) (k:IE) (op:BOp) (v:IE)
 | app (i:Nat) (e:IE)
 | appPop (i j:Nat) (e:IE)
 | extd (i:Nat) (e:IE)
 | entNew (i:Nat)
 | entApp (i:Nat) (e:IE)
 | entIns (i:Nat) (k:IE) (x:Str)
 | ite (t:IT) (a b:ISs)
 | for1 (i:Nat) (it:It) (body:ISs)
 | for2 (i j:Nat) (it:It) (body:ISs)
 | forItems (i j:Nat) (e:IE) (body:ISs)
 | whil (fuel:Nat) (t:IT) (body:ISs)
 | ret (e:IE)
 | brk
 | dead
inductive ISs where
 | nil
 | cons (i:IS) (is:ISs)
end
inductive Out where
 | next (ρ:Ro)
 | brk (ρ:Ro)
 | ret (d:D)
noncomputable def aA2:Ro→Nat→LV→Ro
 | [],i,lv=>[(i,lv)]
 | (j,v)::r,i,lv=>if i == j then (i,lv)::r else (j,v)::aA2 r i lv
noncomputable def aD2 (bs:List (Nat × D)) (ρ:Ro):Ro:=bs.foldl (fun r p=>aA2 r p.1 (.dat p.2)) ρ
noncomputable def bV0 (ρ:Ro) (i:Nat):Option D:=match ρ.lookup i with
 | some (.own d)=>some d
 | _=>none
noncomputable def dR4:BOp→D→D→Option D
 | .add,.int a,.int b=>some (.int (a+b))
 | .add,.str x,.str y=>if x.length+y.length≤lim then some (.str (x++y)) else none
 | .fdiv,.int a,.int b=>if 0 < b∧b < 2 ^ 29 then some (.int (a.fdiv b)) else none
 | _,_,_=>none
noncomputable def bU9 (kvs:List (Key × Int)) (k:Key) (v:Int):List (Key × Int) :=
 if kvs.any (fun p=>decide (p.1=k)) then kvs.map (fun p=>if p.1=k then (p.1,v) else p) else kvs++[(k,v)]
noncomputable def aZ2:D→D→D→Option D
 | .lst ds,.int k,v=>if 0≤k∧k < ds.length∧k < 2 ^ 40 then some (.lst (ds.set k.toNat v)) else none
 | .dct kvs,key,.int i=>if kvs.length≤lim then (dD5 key).map fun k=>.dct (bU9 kvs k i) else none
 | .barr b,.int k,.int v=>if 0≤k∧k < b.size∧b.size≤1000∧0≤v∧v < 256 then some (.barr (b.setIfInBounds k.toNat v.toNat.toUInt8)) else none
 | _,_,_=>none
noncomputable def eF7:D→D→Option D
 | .lst ds,d=>if ds.length≤lim then some (.lst (ds++[d])) else none
 | _,_=>none
noncomputable def eD4:D→D→Option D
 | .lst ds,.lst es=>if ds.length≤lim∧es.length≤lim then some (.lst (ds++es)) else none
 | .lst ds,.tup es=>if ds.length≤lim∧es.length≤lim then some (.lst (ds++es)) else none
 | _,_=>none
noncomputable def eH0:D→D→Option (D × D)
 | .lst ds,.int k=>if 0≤k∧k < ds.length∧ds.length≤lim then (ds[k.toNat]?).map fun d=>(.lst (ds.eraseIdx k.toNat),d) else none
 | _,_=>none
noncomputable def aH0 (f:D→Ro→Option Out):List D→Ro→Option Out
 | [],ρ=>some (.next ρ)
 | d::ds,ρ=>(f d ρ).bind fun o=>match o with
  | .next ao=>aH0 f ds ao
  | .brk ao=>some (.next ao)
  | .ret d=>some (.ret d)
noncomputable def aR6 (t:Ro→Option Bool) (f:Ro→Option Out):Nat→Ro→Option Out
 | 0,_=>none
 | n+1,ρ=>(t ρ).bind fun b=>if b=true then (f ρ).bind fun o=>match o with
  | .next ao=>aR6 t f n ao
  | .brk ao=>some (.next ao)
  | .ret d=>some (.ret d)
  else some (.next ρ)
mutual
noncomputable def run (Γ:List Fn):IS→Ro→Option Out
 | .asg i e,ρ=>(ev Γ e false ρ).map fun d=>.next (aA2 ρ i (.dat d))
 | .asgC i elt x it ifs,ρ=>(ev Γ (.comp elt x it ifs) false ρ).map fun d=>.next (aA2 ρ i (.dat d))
 | .own i es,ρ=>(evs Γ es false ρ).bind fun ds=>if ds.length≤lim then some (.next (aA2 ρ i (.own (.lst ds)))) else none
 | .ownMul i es e,ρ=>(evs Γ es false ρ).bind fun ds=>(ev Γ e false ρ).bind fun n=>match n with
  | .int n=>if 0≤n∧n≤1000∧ds.length*n.toNat≤256∧ds.length≤lim then some (.next (aA2 ρ i (.own (.lst (List.replicate n.toNat ds).flatten)))) else none
  | _=>none
 | .ownDict i,ρ=>some (.next (aA2 ρ i (.own (.dct []))))
 | .ownBarr _ _,_=>none
 | .freeze i,ρ=>(bV0 ρ i).map fun d=>.next (aA2 ρ i (.dat d))
 | .aug i op e,ρ=>(ev Γ (.var i) false ρ).bind fun a=>(ev Γ e false ρ).bind fun b=>(dR4 op a b).map fun d=>.next (aA2 ρ i (.dat d))
 | .setIdx i k v,ρ=>(bV0 ρ i).bind fun o=>(ev Γ v false ρ).bind fun v=>(ev Γ k true ρ).bind fun k=>(aZ2 o k v).map fun d=>.next (aA2 ρ i (.own d))
 | .augIdx i k op v,ρ=>(bV0 ρ i).bind fun o=>(ev Γ k true ρ).bind fun k=>(bJ8 o k).bind fun old=>if dE1 old=true then (ev Γ v false ρ).bind fun v=>(dR4 op old v).bind fun new=>(aZ2 o k new).map fun d=>.next (aA2 ρ i (.own d)) else none
 | .app i e,ρ=>(bV0 ρ i).bind fun o=>(ev Γ e false ρ).bind fun d=>(eF7 o d).map fun d=>.next (aA2 ρ i (.own d))
 | .appPop i j e,ρ=>(bV0 ρ i).bind fun o=>(bV0 ρ j).bind fun p=>(ev Γ e true ρ).bind fun k=>if i=j then none else (eH0 p k).bind fun q=>(eF7 o q.2).map fun d=>.next (aA2 (aA2 ρ j (.own q.1)) i (.own d))
 | .extd i e,ρ=>(bV0 ρ i).bind fun o=>(ev Γ e false ρ).bind fun d=>(eD4 o d).map fun d=>.next (aA2 ρ i (.own d))
 | .entNew i,ρ=>some (.next (aA2 ρ i (.own (.ent []))))
 | .entApp i e,ρ=>(bV0 ρ i).bind fun o=>(ev Γ e false ρ).bind fun d=>match o with
  | .ent ds=>if ds.length≤lim then some (.next (aA2 ρ i (.own (.ent (ds++[d]))))) else none
  | _=>none
 | .entIns i k x,ρ=>(bV0 ρ i).bind fun o=>(ev Γ k true ρ).bind fun k=>match o,k with
  | .ent ds,.int n=>if 0≤n∧n≤ds.length∧ds.length≤lim then some (.next (aA2 ρ i (.own (.ent (ds.take n.toNat++.str x::ds.drop n.toNat))))) else none
  | _,_=>none
 | .ite t a b,ρ=>(tst Γ t ρ).bind fun c=>if c=true then aD7 Γ a ρ else aD7 Γ b ρ
 | .for1 i it body,ρ=>(bI2 Γ it ρ).bind fun ds=>aH0 (fun d ρ=>aD7 Γ body (aD2 [(i,d)] ρ)) ds ρ
 | .for2 i j it body,ρ=>(bI2 Γ it ρ).bind fun ds=>aH0 (fun d ρ=>(cK0 i j d).bind fun bs=>aD7 Γ body (aD2 bs ρ)) ds ρ
 | .forItems i j e body,ρ=>(ev Γ e false ρ).bind fun x=>match x with
  | .dct kvs=>aH0 (fun d ρ=>(cK0 i j d).bind fun bs=>aD7 Γ body (aD2 bs ρ)) (aN0 kvs) ρ
  | _=>none
 | .whil fuel t body,ρ=>aR6 (tst Γ t) (aD7 Γ body) fuel ρ
 | .ret e,ρ=>(ev Γ e false ρ).map .ret
 | .brk,ρ=>some (.brk ρ)
 | .dead,_=>none
noncomputable def aD7 (Γ:List Fn):ISs→Ro→Option Out
 | .nil,ρ=>some (.next ρ)
 | .cons i is,ρ=>(run Γ i ρ).bind fun o=>match o with
  | .next ao=>aD7 Γ is ao
  | .brk ao=>some (.brk ao)
  | .ret d=>some (.ret d)
end
noncomputable def cB1:Expr→Bool
 | .Slice ..=>false
 | _=>true
noncomputable def bX0:Expr→Bool
 | .ListComp .. | .SetComp .. | .DictComp ..=>false
 | _=>true
noncomputable def bM3 (sc:Scope) (x:Str):Expr→Bool
 | .ListComp _ _ _ _=>decide (sc.names.lookup x=some .cell)
 | .SetComp .. | .DictComp ..=>false
 | _=>true
noncomputable def eK8 (ns:List Str) (sc:Scope) (i:Nat) (x:Str):Bool:=aB6 ns sc i x&&!(x == ("__debug__":Str))
noncomputable def eP0 (ns:List Str) (sc:Scope) (i:Nat) (m:Str):Expr→Bool
 | .Attribute (.Name x _) m' _=>aB6 ns sc i x&&decide (m=m')
 | _=>false
end Mine
end
section
open PySem PySem.W PyProof.Rows PySem.Calls PySem.Spec
set_option autoImplicit false
namespace Mine
theorem aB9 (i j:Nat) (lv:LV):∀ ρ:Ro,(aA2 ρ i lv).lookup j=if j=i then some lv else ρ.lookup j
 | []=>by
  (dsimp only [aA2];simp only [List.lookup_cons,List.lookup_nil])
  by_cases h:j=i
  ·subst h;simp
  ·simp [h,beq_eq_false_iff_ne.mpr h]
 | (k,v)::r=>by
  have ih:=aB9 i j lv r
  (dsimp only [aA2])
  by_cases hk:(i == k)=true
  ·rw [if_pos hk]
   have:=eq_of_beq hk
   subst this
   simp only [List.lookup_cons]
   by_cases h:j=i
   ·subst h;simp
   ·simp [h,beq_eq_false_iff_ne.mpr h]
  ·rw [if_neg hk]
   simp only [List.lookup_cons]
   by_cases h:j=k
   ·subst h
    have:¬ j=i:=fun z=>hk (by rw [z];simp)
    simp [this]
   ·simp only [beq_eq_false_iff_ne.mpr h]
    exact ih
theorem bG6 {i:Nat} {lv:LV}:∀ (bs:List (Nat × D)) (ρ:Ro),(aD2 bs ρ).lookup i=some lv→(∃ d',lv=.dat d'∧(i,d')∈bs)∨((∀ d',(i,d')∉bs)∧ρ.lookup i=some lv)
 | [],ρ,h=>.inr ⟨fun _ m=>(List.not_mem_nil m).elim,h⟩
 | (j,d)::bs,ρ,h=>by
  rcases bG6 bs (aA2 ρ j (.dat d)) h with ⟨d',e,m⟩ | ⟨m,q⟩
  ·exact .inl ⟨d',e,.tail _ m⟩
  ·rw [aB9] at q
   by_cases e:i=j
   ·rw [if_pos e] at q;obtain rfl:=Option.some.inj q
    rw [e]
    exact .inl ⟨d,rfl,.head _⟩
   ·rw [if_neg e] at q
    refine .inr ⟨fun d' z=>?_,q⟩
    rcases List.mem_cons.mp z with w | w
    ·cases w;exact e rfl
    ·exact m d' w
theorem OwnIs.off {C:Cfg} {h h':Heap} {Mu:Addr→Bool} {v:Value} {m:Addr} {d:D} (o:OwnIs C h Mu v m d) (k:∀ b o,(Mu b=false∨b=m)→h.get? b=some o→h'.get? b=some o):OwnIs C h' Mu v m d:=by
 have vl:VLe (Fz h Mu) (Fz h' Mu):=aL9 fun b o e=>k b o (.inl e)
 cases o with
 | lst q r=>exact .lst (k _ _ (.inr rfl) q) (r.mono vl)
 | dct r =>
  obtain ⟨_,_,_,h,e,r,i,z⟩:=r.inv
  cases h
  rw [aO2] at e
  exact .dct (.dct (by rw [aO2];exact k _ _ (.inr rfl) e) r i z)
 | barr q=>exact .barr (k _ _ (.inr rfl) q)
 | ent h1 h2 h3 h5 h4 r=>exact .ent (vl _ _ h1 Value.noConfusion) (vl _ _ h2 Value.noConfusion) h3 h5 (k _ _ (.inr rfl) h4) (r.mono vl)
theorem OwnIs.mu {C:Cfg} {h:Heap} {Mu Mu':Addr→Bool} {v:Value} {m:Addr} {d:D} (o:OwnIs C h Mu v m d) (k:VLe (Fz h Mu) (Fz h Mu')):OwnIs C h Mu' v m d:=by
 cases o with
 | lst q r=>exact .lst q (r.mono k)
 | dct r=>exact .dct r
 | barr q=>exact .barr q
 | ent h1 h2 h3 h5 h4 r=>exact .ent (k _ _ h1 Value.noConfusion) (k _ _ h2 Value.noConfusion) h3 h5 h4 (r.mono k)
theorem OwnIs.at {C:Cfg} {h:Heap} {Mu:Addr→Bool} {v:Value} {m:Addr} {d:D} (o:OwnIs C h Mu v m d):∃ ob,h.get? m=some ob∧aL8 ob:=by
 refine hid fun Gz zz=>?_
 cases o with
 | lst q r =>
  refine zz ?_;clear zz Gz
  exact ⟨_,q,by simp,by simp⟩
 | dct r =>
  refine zz ?_;clear zz Gz
  refine hid fun Gz zz=>?_
  obtain ⟨_,_,_,h,e,r,i,z⟩:=r.inv
  refine zz ?_;clear zz Gz
  cases h
  rw [aO2] at e
  exact ⟨_,e,by obtain ⟨_,_,q,_⟩:=r;unfold aL8;rw [q.1];simp⟩
 | barr q =>
  refine zz ?_;clear zz Gz
  exact ⟨_,q,by simp,by simp⟩
 | ent h1 h2 h3 h5 h4 r =>
  refine zz ?_;clear zz Gz
  exact ⟨_,h4,by simp,by simp⟩
structure Frm (C:Cfg) (lev:Nat) (Γ:List Fn) (ns:List Str) (A:Around) (env:Env) (ah:Shared) (ac:Addr→Bool) (ρ:Ro) (W Mu:Addr→Bool) (ad:Nat→Addr) (s:Shared):Prop where
 fns:FnsOk C lev Γ
 kit:Kit C
 room:RoomL lev A
 ok0:SOk C ah
 mu0:MuOk C ac ah.heap
 ok:SOk C s
 tok:0 < s.toks
 envOk:EnvOk env
 mu:MuOk C Mu s.heap
 frame:FrameIs Mu env s.heap
 nodup:ns.Nodup∧(".0":Str)∉ns
 vars:∀ (i:Nat) (x:Str) (lv:LV),ns[i]?=some x→ρ.lookup i=some lv→bB6 env.scope x=true→VarIs C env s.heap Mu ad i x lv
 wMu:∀ a,W a=true→Mu a=true
 wNew:∀ a,W a=true→ah.heap.get? a=none
 wL:W env.locals=true∧∀ x c,env.cells.lookup x=some c→W c=true
 own:∀ i d,ρ.lookup i=some (.own d)→W (ad i)=true∧ad i≠env.locals∧∀ x c,env.cells.lookup x=some c→ad i≠c
 ownNe:∀ i j d e,i≠j→ρ.lookup i=some (.own d)→ρ.lookup j=some (.own e)→ad i≠ad j
 base:Go C ah s
 tk:ah.toks≤s.toks
 muSub:∀ a,ac a=true→Mu a=true
 can:∀ (i:Nat) (x:Str),ns[i]?=some x→bB6 env.scope x=true→aE7 env x
structure Stp (C:Cfg) (W Mu:Addr→Bool) (s:Shared) (W' Mu':Addr→Bool) (s':Shared):Prop where
 keep:∀ b o,W b=false→s.heap.get? b=some o→(o.cls≠.none∨b≠C.PT)→s'.heap.get? b=some o
 new:∀ a,W' a=true→W a=true∨s.heap.get? a=none
 newMu:∀ a,Mu' a=true→Mu a=true∨s.heap.get? a=none
 resv:∀ a,Mu a=true→W a=false→(s.heap.get? a).isSome=true→Mu' a=true
 has:∀ a,(s.heap.get? a).isSome=true→(s'.heap.get? a).isSome=true
 tk:s.toks≤s'.toks
theorem Stp.refl {C:Cfg} (W Mu:Addr→Bool) (s:Shared):Stp C W Mu s W Mu s:=⟨fun _ _ _ e _=>e,fun _ h=>.inl h,fun _ h=>.inl h,fun _ h _ _=>h,fun _ h=>h,Nat.le_refl _⟩
theorem Stp.newTrans {s s':Shared} {P Q R:Addr→Bool} (has:∀ a,(s.heap.get? a).isSome=true→(s'.heap.get? a).isSome=true) (h1:∀ a,Q a=true→P a=true∨s.heap.get? a=none) (h2:∀ a,R a=true→Q a=true∨s'.heap.get? a=none) :
  ∀ a,R a=true→P a=true∨s.heap.get? a=none:=fun x h=>by
 rcases h2 x h with z | z
 ·exact h1 x z
 ·cases q:s.heap.get? x with
  | none=>exact .inr rfl
  | some o =>
   have:=has x (by rw [q];rfl)
   rw [z] at this;exact noB this
theorem Stp.off {C:Cfg} {W W' Mu Mu':Addr→Bool} {s s':Shared} (a:Stp C W Mu s W' Mu' s') {b:Addr} (h:W b=false) (e:(s.heap.get? b).isSome=true):W' b=false:=by
 cases q:W' b with
 | false=>rfl
 | true =>
  rcases a.new b q with z | z
  ·rw [h] at z;exact noB z
  ·rw [z] at e;exact noB e
theorem Stp.trans {C:Cfg} {W W' W'' Mu Mu' Mu'':Addr→Bool} {s s' s'':Shared} (a:Stp C W Mu s W' Mu' s') (b:Stp C W' Mu' s' W'' Mu'' s''):Stp C W Mu s W'' Mu'' s'' where
 keep:=fun x o hw e c=>b.keep x o (a.off hw (by rw [e];rfl)) (a.keep x o hw e c) c
 new:=Stp.newTrans a.has a.new b.new
 newMu:=Stp.newTrans a.has a.newMu b.newMu
 resv:=fun x hm hw hs=>b.resv x (a.resv x hm hw hs) (a.off hw hs) (a.has x hs)
 has:=fun x h=>b.has x (a.has x h)
 tk:=aA9 a.tk b.tk
theorem Go.stp {C:Cfg} {W Mu:Addr→Bool} {s s':Shared} (g:Go C s s') (T:C.tab s.heap) (t:s.toks≤s'.toks):Stp C W Mu s W Mu s' where
 keep:=fun b o _ e c=>g.ext b o e c
 new:=fun _ h=>.inl h
 newMu:=fun _ h=>.inl h
 resv:=fun _ h _ _=>h
 has:=fun a h=>by
  obtain ⟨o,e⟩:=Option.isSome_iff_exists.mp h
  by_cases q:a=C.PT
  ·obtain ⟨o',e',_⟩:=C.tabNone _ (g.tab T)
   rw [q,e'];rfl
  ·rw [g.ext a o e (.inr q)];rfl
 tk:=t
section
variable {C:Cfg} {lev:Nat} {Γ:List Fn} {ns:List Str} {A:Around} {env:Env} {ah:Shared} {ac:Addr→Bool} {ρ:Ro} {W Mu:Addr→Bool} {ad:Nat→Addr} {s s':Shared}
theorem Frm.cx (F:Frm C lev Γ ns A env ah ac ρ W Mu ad s):Cx C lev Γ ns A env ρ Mu s:=⟨F.fns,F.kit,F.room,F.ok,F.tok,F.envOk,F.mu,F.frame,F.nodup,ad,F.vars⟩
theorem Frm.go (F:Frm C lev Γ ns A env ah ac ρ W Mu ad s) (g:Go C s s') (t:s.toks≤s'.toks):Frm C lev Γ ns A env ah ac ρ W Mu ad s' where
 fns:=F.fns
 kit:=F.kit
 room:=F.room
 ok0:=F.ok0
 mu0:=F.mu0
 ok:=F.ok.go g
 tok:=aM7 F.tok t
 envOk:=F.envOk
 mu:=F.mu.ext g.ext
 frame:=F.frame.ext F.mu g.ext
 nodup:=F.nodup
 vars:=fun i x lv a b c=>(F.vars i x lv a b c).ext F.mu F.frame g.ext
 wMu:=F.wMu
 wNew:=F.wNew
 wL:=F.wL
 own:=F.own
 ownNe:=F.ownNe
 base:=F.base.trans g
 tk:=aA9 F.tk t
 muSub:=F.muSub
 can:=F.can
theorem Frm.slotW (F:Frm C lev Γ ns A env ah ac ρ W Mu ad s) {x:Str} (h:aE7 env x):W (slot env x)=true:=by
 rcases h with h | ⟨h,hc⟩
 ·unfold slot;rw [if_pos h];exact F.wL.1
 ·obtain ⟨c,hc⟩:=Option.isSome_iff_exists.mp hc
  unfold slot;rw [if_neg (by rw [h];decide),hc];exact F.wL.2 x c hc
theorem Frm.slotNe (F:Frm C lev Γ ns A env ah ac ρ W Mu ad s) {x:Str} (h:aE7 env x) {i:Nat} {d:D} (o:ρ.lookup i=some (.own d)):ad i≠slot env x:=by
 obtain ⟨_,h1,h2⟩:=F.own i d o
 rcases h with h | ⟨h,hc⟩
 ·unfold slot;rw [if_pos h];exact h1
 ·obtain ⟨c,hc⟩:=Option.isSome_iff_exists.mp hc
  unfold slot;rw [if_neg (by rw [h];decide),hc];exact h2 x c hc
theorem Frm.bound (F:Frm C lev Γ ns A env ah ac ρ W Mu ad s) {names:List Str} {bs:List (Nat × D)} {h':Heap} {tk:Nat} (cs:∀ x∈names,aE7 env x) (P:Put C Mu env names s.heap h')
  (hb:∀ i d',(i,d')∈bs→∃ x u,ns[i]?=some x∧HasVar env h' x u∧Rd C (Fz h' Mu) u d') (hn:∀ x∈names,∃ i d',(i,d')∈bs∧ns[i]?=some x) (ht:s.toks≤tk) :
  Frm C lev Γ ns A env ah ac (aD2 bs ρ) W Mu ad { s with heap:=h',toks:=tk }∧Stp C W Mu s W Mu { s with heap:=h',toks:=tk }:=by
 have goB:∀ {aa:Shared},Go C aa s→(∀ a,W a=true→aa.heap.get? a=none)→Go C aa { s with heap:=h',toks:=tk }:=fun {aa} g hw =>
  g.but (fun a=>∃ x∈names,a=slot env x) (fun a ⟨x,hx,e⟩=>hw a (e ▸ F.slotW (cs x hx))) (fun a o ⟨x,hx,e⟩ q=>by obtain ⟨_,o',q',t⟩:=F.mu a (e ▸ P.inMu x hx);rw [q'] at q;obtain rfl:=Option.some.inj q;exact t)
   fun b o hb e=>P.keep b o (fun x hx e=>hb ⟨x,hx,e⟩) e
 have g:=goB F.base F.wNew
 have look:∀ {i lv},(aD2 bs ρ).lookup i=some lv→(∃ d',lv=.dat d'∧(i,d')∈bs)∨((∀ d',(i,d')∉bs)∧ρ.lookup i=some lv):=fun h=>bG6 bs ρ h
 have ownLook:∀ {i d},(aD2 bs ρ).lookup i=some (.own d)→ρ.lookup i=some (.own d):=fun h=>by
  rcases look h with ⟨d',e,_⟩ | ⟨_,q⟩
  ·cases e
  ·exact q
 have sok:SOk C { s with heap:=h',toks:=tk }:=F.ok0.go g
 refine ⟨⟨F.fns,F.kit,F.room,F.ok0,F.mu0,sok,aM7 F.tok ht,F.envOk,P.mu,P.frame,F.nodup,?_,F.wMu,F.wNew,F.wL,fun i d h=>F.own i d (ownLook h),fun i j d e n h1 h2=>F.ownNe i j d e n (ownLook h1) (ownLook h2),g,aA9 F.tk ht,F.muSub,F.can⟩,?_⟩
 ·intro i x lv hx hl hv
  rcases look hl with ⟨d',rfl,m⟩ | ⟨m,q⟩
  ·obtain ⟨y,u,hy,hu,ru⟩:=hb i d' m
   rw [hx] at hy;obtain rfl:=Option.some.inj hy
   exact ⟨u,hu,ru⟩
  ·have hx':x∉names:=fun z=>by
    obtain ⟨j,d',hj,hjx⟩:=hn x z
    rw [bE5 F.nodup.1 hjx hx] at hj
    exact m _ hj
   have V:=F.vars i x lv hx q hv
   cases lv with
   | dat d=>obtain ⟨u,hu,ru⟩:=V;exact ⟨u,P.others x u hx' hu,ru.mono P.view⟩
   | own d =>
    obtain ⟨u,hu,ou⟩:=V
    refine ⟨u,P.others x u hx' hu,ou.off fun b o hb e=>P.keep b o (fun y hy z=>?_) e⟩
    rcases hb with hb | hb
    ·rw [z,P.inMu y hy] at hb;cases hb
    ·rw [z] at hb;exact F.slotNe (cs y hy) q hb.symm
 ·refine ⟨fun b o hw e c=>P.keep b o (fun x hx z=>?_) e,fun _ h=>.inl h,fun _ h=>.inl h,fun _ h _ _=>h,fun a h=>?_,ht⟩
  ·rw [z,F.slotW (cs x hx)] at hw;cases hw
  ·obtain ⟨o,e⟩:=Option.isSome_iff_exists.mp h
   by_cases q:Mu a=true
   ·obtain ⟨_,o',e',_⟩:=P.mu a q
    show (h'.get? a).isSome=true
    rw [e'];rfl
   ·have:h'.get? a=some o:=P.keep a o (fun x hx z=>q (z ▸ P.inMu x hx)) e
    show (h'.get? a).isSome=true
    rw [this];rfl
end
end Mine
end
section
open PySem PySem.W PyProof.Rows PySem.Calls PySem.Spec
set_option autoImplicit false
namespace Mine
section
variable {C:Cfg} {lev:Nat} {Γ:List Fn} {ns:List Str} {A:Around} {env:Env} {ah:Shared} {ac:Addr→Bool} {ρ:Ro} {W Mu:Addr→Bool} {ad:Nat→Addr} {s s':Shared}
theorem aV9 {h h':Heap} {x:Str} {v:Value} {m:Addr} (H:HasVar env h x v) (hl:m≠env.locals) (hc:∀ x c,env.cells.lookup x=some c→m≠c) (k:∀ b o,b≠m→h.get? b=some o→h'.get? b=some o):HasVar env h' x v:=by
 refine hid fun Gz zz=>?_
 rcases H with ⟨kk,m',n',q'⟩ | ⟨kk,c,hcc,o,e,d⟩
 ·refine zz ?_;clear zz Gz
  exact .inl ⟨kk,m',n'.at' fun o e=>k _ o (Ne.symm hl) e,q'⟩
 ·refine zz ?_;clear zz Gz
  exact .inr ⟨kk,c,hcc,o,k c o (Ne.symm (hc x c hcc)) e,d⟩
theorem bF5 {h h':Heap} {m:Addr} (F:FrameIs Mu env h) (hl:m≠env.locals) (hc:∀ x c,env.cells.lookup x=some c→m≠c) (k:∀ b o,b≠m→h.get? b=some o→h'.get? b=some o):FrameIs Mu env h' :=
 ⟨let ⟨m',n⟩:=F.ns;⟨m',n.at' fun o e=>k _ o (Ne.symm hl) e⟩,fun x c q=>let ⟨v,o,e,d⟩:=F.cell x c q;⟨v,o,k c o (Ne.symm (hc x c q)) e,d⟩,F.muL,F.muC⟩
theorem Frm.turn (F:Frm C lev Γ ns A env ah ac ρ W Mu ad s) {i:Nat} {x:Str} {d d':D} {v:Value} {h':Heap} {tk:Nat} (hx:ns[i]?=some x) (ho:ρ.lookup i=some (.own d)) (hv:HasVar env s.heap x v)
  (k:∀ b o,b≠ad i→s.heap.get? b=some o→h'.get? b=some o) (hn:OwnIs C h' Mu v (ad i) d') (ht:s.toks≤tk) :
  Frm C lev Γ ns A env ah ac (aA2 ρ i (.own d')) W Mu ad { s with heap:=h',toks:=tk }∧Stp C W Mu s W Mu { s with heap:=h',toks:=tk }:=by
 obtain ⟨hw,hl,hc⟩:=F.own i d ho
 have hm:=F.wMu _ hw
 have g:Go C ah { s with heap:=h',toks:=tk }:=F.base.but (fun a=>a=ad i) (fun a e=>e ▸ F.wNew _ hw) (fun a o e q=>by obtain ⟨_,o',q',t⟩:=F.mu (ad i) hm;rw [e,q'] at q;obtain rfl:=Option.some.inj q;exact t) fun b o hb e=>k b o hb e
 have view:VLe (Fz s.heap Mu) (Fz h' Mu):=aL9 fun b o e=>k b o (fun z=>by rw [z,hm] at e;cases e)
 have ownLook:∀ {j e},(aA2 ρ i (.own d')).lookup j=some (.own e)→∃ e',ρ.lookup j=some (.own e'):=fun {j e} h=>by
  rw [aB9] at h
  split at h
  ·rename_i q;exact ⟨d,q ▸ ho⟩
  ·exact ⟨e,h⟩
 refine ⟨⟨F.fns,F.kit,F.room,F.ok0,F.mu0,F.ok0.go g,aM7 F.tok ht,F.envOk,?_,bF5 F.frame hl hc k,F.nodup,?_,F.wMu,F.wNew,F.wL,fun j e h=>let ⟨e',h'⟩:=ownLook h;F.own j e' h',
  fun a b e f n h1 h2=>let ⟨_,h1'⟩:=ownLook h1;let ⟨_,h2'⟩:=ownLook h2;F.ownNe a b _ _ n h1' h2',g,aA9 F.tk ht,F.muSub,F.can⟩,?_⟩
 ·intro a ha
  refine hid fun Gz zz=>?_
  obtain ⟨c,o,e,t⟩:=F.mu a ha
  refine zz ?_;clear zz Gz
  by_cases q:a=ad i
  ·subst q;obtain ⟨o',e',t'⟩:=hn.at;exact ⟨c,o',e',t'⟩
  ·exact ⟨c,o,k a o q e,t⟩
 ·intro j y lv hy hlk hvis
  rw [aB9] at hlk
  split at hlk
  ·rename_i q
   subst q;obtain rfl:=Option.some.inj hlk
   rw [hx] at hy;obtain rfl:=Option.some.inj hy
   exact ⟨v,aV9 hv hl hc k,hn⟩
  ·rename_i q
   have V:=F.vars j y lv hy hlk hvis
   cases lv with
   | dat e=>obtain ⟨u,hu,ru⟩:=V;exact ⟨u,aV9 hu hl hc k,ru.mono view⟩
   | own e =>
    obtain ⟨u,hu,ou⟩:=V
    refine ⟨u,aV9 hu hl hc k,ou.off fun b o hb eb=>k b o (fun z=>?_) eb⟩
    rcases hb with hb | hb
    ·rw [z,hm] at hb;cases hb
    ·exact F.ownNe i j d e (Ne.symm q) ho hlk (z.symm.trans hb)
 ·refine ⟨fun b o hwb e c=>k b o (fun z=>by rw [z,hw] at hwb;cases hwb) e,fun _ h=>.inl h,fun _ h=>.inl h,fun _ h _ _=>h,fun a h=>?_,ht⟩
  obtain ⟨o,e⟩:=Option.isSome_iff_exists.mp h
  by_cases q:a=ad i
  ·subst q;obtain ⟨o',e',_⟩:=hn.at
   show (h'.get? (ad i)).isSome=true
   rw [e'];rfl
  ·show (h'.get? a).isSome=true
   rw [k a o q e];rfl
noncomputable def bL1 (M:Addr→Bool) (a:Addr):Addr→Bool:=fun b=>M b || b == a
noncomputable def bC0 (M:Addr→Bool) (a:Addr):Addr→Bool:=fun b=>M b&&!(b == a)
theorem aP2 (M:Addr→Bool) (a:Addr):bL1 M a a=true:=by simp [bL1]
theorem aH3 {M:Addr→Bool} {a b:Addr} (h:M b=true):bL1 M a b=true:=by simp [bL1,h]
theorem aD0 {M:Addr→Bool} {a b:Addr} (h:bL1 M a b=true):M b=true∨b=a:=by simpa [bL1] using h
theorem Frm.addMu (F:Frm C lev Γ ns A env ah ac ρ W Mu ad s) {a:Addr} (ha:s.heap.get? a=none) (g:Go C s s') (t:s.toks≤s'.toks) (hb:∃ o,s'.heap.get? a=some o∧aL8 o) :
  Frm C lev Γ ns A env ah ac ρ W (bL1 Mu a) ad s':=by
 have G:=F.go g t
 have view:VLe (Fz s.heap Mu) (Fz s'.heap (bL1 Mu a)):=fun b o q c=>by
  unfold Fz at q ⊢
  by_cases m:Mu b=true
  ·rw [if_pos m] at q;exact nos q
  ·rw [if_neg m] at q
   rw [if_neg fun z=>by
    rcases aD0 z with z | z
    ·exact m z
    ·rw [z,ha] at q;cases q]
   exact g.ext b o q (.inl c)
 have viewS:VLe (Fz s.heap Mu) (Fz s.heap (bL1 Mu a)):=fun b o q c=>by
  unfold Fz at q ⊢
  by_cases m:Mu b=true
  ·rw [if_pos m] at q;exact nos q
  ·rw [if_neg m] at q
   rw [if_neg fun z=>by
    rcases aD0 z with z | z
    ·exact m z
    ·rw [z,ha] at q;cases q]
   exact q
 refine ⟨F.fns,F.kit,F.room,F.ok0,F.mu0,G.ok,G.tok,F.envOk,?_,⟨G.frame.ns,G.frame.cell,aH3 G.frame.muL,fun x c q=>aH3 (G.frame.muC x c q)⟩,F.nodup,?_,fun b h=>aH3 (F.wMu b h),F.wNew,F.wL,F.own,F.ownNe,G.base,G.tk,fun b h=>aH3 (F.muSub b h),F.can⟩
 ·intro b h
  rcases aD0 h with h | h
  ·exact G.mu b h
  ·subst h
   obtain ⟨o,e,t⟩:=hb
   exact ⟨cR0 G.ok.tab e t.1,o,e,t⟩
 ·intro i x lv hx hl hv
  have V:=F.vars i x lv hx hl hv
  cases lv with
  | dat d=>obtain ⟨u,hu,ru⟩:=V;exact ⟨u,hu.ext F.mu F.frame g.ext,ru.mono view⟩
  | own d=>obtain ⟨u,hu,ou⟩:=V;exact ⟨u,hu.ext F.mu F.frame g.ext,(ou.mu viewS).ext g.ext⟩
theorem Frm.addW (F:Frm C lev Γ ns A env ah ac ρ W Mu ad s) {a:Addr} (ha:Mu a=true) (h0:ah.heap.get? a=none):Frm C lev Γ ns A env ah ac ρ (bL1 W a) Mu ad s :=
 ⟨F.fns,F.kit,F.room,F.ok0,F.mu0,F.ok,F.tok,F.envOk,F.mu,F.frame,F.nodup,F.vars,fun b h=>by
   rcases aD0 h with h | h
   ·exact F.wMu b h
   ·subst h;exact ha,fun b h=>by
   rcases aD0 h with h | h
   ·exact F.wNew b h
   ·subst h;exact h0,⟨aH3 F.wL.1,fun x c q=>aH3 (F.wL.2 x c q)⟩,fun i d h=>let ⟨a,b⟩:=F.own i d h;⟨aH3 a,b⟩,F.ownNe,F.base,F.tk,F.muSub,F.can⟩
theorem Frm.aside (F:Frm C lev Γ ns A env ah ac ρ W Mu ad s) {a:Addr} {h':Heap} {tk:Nat} (hM:Mu a=true) (hW:W a=false) (h0:ah.heap.get? a=none) (k:∀ b o,b≠a→s.heap.get? b=some o→h'.get? b=some o)
  (hT:∃ o,h'.get? a=some o∧aL8 o) (ht:s.toks≤tk):Frm C lev Γ ns A env ah ac ρ W Mu ad { s with heap:=h',toks:=tk }:=by
 have hl:a≠env.locals:=fun z=>by rw [z,F.wL.1] at hW;cases hW
 have hc:∀ x c,env.cells.lookup x=some c→a≠c:=fun x c q z=>by rw [z,F.wL.2 x c q] at hW;cases hW
 have g:Go C ah { s with heap:=h',toks:=tk }:=F.base.but (fun b=>b=a) (fun b e=>e ▸ h0) (fun b o e q=>by obtain ⟨_,o',q',t⟩:=F.mu a hM;rw [e,q'] at q;obtain rfl:=Option.some.inj q;exact t) fun b o hb e=>k b o hb e
 have view:VLe (Fz s.heap Mu) (Fz h' Mu):=aL9 fun b o e=>k b o (fun z=>by rw [z,hM] at e;cases e)
 refine ⟨F.fns,F.kit,F.room,F.ok0,F.mu0,F.ok0.go g,aM7 F.tok ht,F.envOk,?_,bF5 F.frame hl hc k,F.nodup,?_,F.wMu,F.wNew,F.wL,F.own,F.ownNe,g,aA9 F.tk ht,F.muSub,F.can⟩
 ·intro b hb
  obtain ⟨c,o,e,t⟩:=F.mu b hb
  by_cases q:b=a
  ·subst q;obtain ⟨o',e',t'⟩:=hT;exact ⟨c,o',e',t'⟩
  ·exact ⟨c,o,k b o q e,t⟩
 ·intro j y lv hy hlk hvis
  have V:=F.vars j y lv hy hlk hvis
  cases lv with
  | dat e=>obtain ⟨u,hu,ru⟩:=V;exact ⟨u,aV9 hu hl hc k,ru.mono view⟩
  | own e =>
   refine hid fun Gz zz=>?_
   obtain ⟨u,hu,ou⟩:=V
   refine zz ?_;clear zz Gz
   refine ⟨u,aV9 hu hl hc k,ou.off fun b o hb eb=>k b o (fun z=>?_) eb⟩
   rcases hb with hb | hb
   ·rw [z,hM] at hb;cases hb
   ·rw [← z,hb,(F.own j e hlk).1] at hW;cases hW
theorem Frm.drop (F:Frm C lev Γ ns A env ah ac ρ W Mu ad s) {a:Addr} {h':Heap} {tk:Nat} (hM:Mu a=true) (hW:W a=false) (h0:ah.heap.get? a=none) (k:∀ b o,b≠a→s.heap.get? b=some o→h'.get? b=some o)
  (ht:s.toks≤tk):Frm C lev Γ ns A env ah ac ρ W (bC0 Mu a) ad { s with heap:=h',toks:=tk }:=by
 have hl:a≠env.locals:=fun z=>by rw [z,F.wL.1] at hW;cases hW
 have hc:∀ x c,env.cells.lookup x=some c→a≠c:=fun x c q z=>by rw [z,F.wL.2 x c q] at hW;cases hW
 have g:Go C ah { s with heap:=h',toks:=tk }:=F.base.but (fun b=>b=a) (fun b e=>e ▸ h0) (fun b o e q=>by obtain ⟨_,o',q',t⟩:=F.mu a hM;rw [e,q'] at q;obtain rfl:=Option.some.inj q;exact t) fun b o hb e=>k b o hb e
 have view:VLe (Fz s.heap Mu) (Fz h' Mu):=aL9 fun b o e=>k b o (fun z=>by rw [z,hM] at e;cases e)
 have view':VLe (Fz h' Mu) (Fz h' (bC0 Mu a)):=.mu fun b h=>by simp [bC0] at h;exact h.1
 have F':=bF5 F.frame hl hc k
 have sub:∀ {b:Addr},Mu b=true→b≠a→bC0 Mu a b=true:=fun h n=>by simp [bC0,h,n]
 refine ⟨F.fns,F.kit,F.room,F.ok0,F.mu0,F.ok0.go g,aM7 F.tok ht,F.envOk,?_,⟨F'.ns,F'.cell,sub F'.muL (Ne.symm hl),fun x c q=>sub (F'.muC x c q) (Ne.symm (hc x c q))⟩,F.nodup,?_,fun b h=>sub (F.wMu b h) (fun z=>by rw [z,hW] at h;exact noB h),F.wNew,F.wL,F.own,F.ownNe,g,aA9 F.tk ht,?_,F.can⟩
 ·intro b hb
  simp [bC0] at hb
  obtain ⟨c,o,e,t⟩:=F.mu b hb.1
  exact ⟨c,o,k b o hb.2 e,t⟩
 ·intro j y lv hy hlk hvis
  have V:=F.vars j y lv hy hlk hvis
  cases lv with
  | dat e=>obtain ⟨u,hu,ru⟩:=V;exact ⟨u,aV9 hu hl hc k,(ru.mono view).mono view'⟩
  | own e =>
   obtain ⟨u,hu,ou⟩:=V
   refine ⟨u,aV9 hu hl hc k,(ou.off fun b o hb eb=>k b o (fun z=>?_) eb).mu view'⟩
   rcases hb with hb | hb
   ·rw [z,hM] at hb;cases hb
   ·rw [← z,hb,(F.own j e hlk).1] at hW;cases hW
 ·intro b h
  refine sub (F.muSub b h) fun z=>?_
  obtain ⟨_,o,e,_⟩:=F.mu0 b h
  rw [z,h0] at e;exact nos e
theorem Frm.freeze (F:Frm C lev Γ ns A env ah ac ρ W Mu ad s) {i:Nat} {d:D} (ho:ρ.lookup i=some (.own d)) :
  Frm C lev Γ ns A env ah ac (aA2 ρ i (.dat d)) (bC0 W (ad i)) (bC0 Mu (ad i)) ad s∧Stp C W Mu s (bC0 W (ad i)) (bC0 Mu (ad i)) s:=by
 obtain ⟨hw,hl,hc⟩:=F.own i d ho
 have hm:=F.wMu _ hw
 have view:VLe (Fz s.heap Mu) (Fz s.heap (bC0 Mu (ad i))):=.mu fun b h=>by simp [bC0] at h;exact h.1
 have here:∀ o,s.heap.get? (ad i)=some o→Fz s.heap (bC0 Mu (ad i)) (ad i)=some o:=fun o e=>by unfold Fz;rw [if_neg (by simp [bC0])];exact e
 have ownLook:∀ {j e},(aA2 ρ i (.dat d)).lookup j=some (.own e)→j≠i∧ρ.lookup j=some (.own e):=fun {j e} h=>by
  rw [aB9] at h
  split at h
  ·cases h
  ·rename_i q;exact ⟨q,h⟩
 have sub:∀ {M:Addr→Bool} {b:Addr},M b=true→b≠ad i→bC0 M (ad i) b=true:=fun h n=>by simp [bC0,h,n]
 refine ⟨⟨F.fns,F.kit,F.room,F.ok0,F.mu0,F.ok,F.tok,F.envOk,fun b h=>F.mu b (by simp [bC0] at h;exact h.1),⟨F.frame.ns,F.frame.cell,sub F.frame.muL (Ne.symm hl),fun x c q=>sub (F.frame.muC x c q) (Ne.symm (hc x c q))⟩,F.nodup,?_,?_,?_,?_,?_,
  fun a b e f n h1 h2=>F.ownNe a b e f n (ownLook h1).2 (ownLook h2).2,F.base,F.tk,?_,F.can⟩,?_⟩
 ·intro j y lv hy hlk hvis
  rw [aB9] at hlk
  split at hlk
  ·rename_i q
   subst q;obtain rfl:=Option.some.inj hlk
   obtain ⟨v,hv,ov⟩:=F.vars j y _ hy ho hvis
   refine ⟨v,hv,?_⟩
   generalize ad j=m at *
   cases ov with
   | lst e r=>exact .lst (here _ e) (r.mono view)
   | dct r=>cases r with | dct e r i z=>rw [aO2] at e;exact .dct (here _ e) r i z
   | barr e=>exact .barr (here _ e)
   | ent h1 h2 h3 h5 h4 r=>exact .ent (view _ _ h1 Value.noConfusion) (view _ _ h2 Value.noConfusion) h3 h5 (here _ h4) (r.mono view)
  ·have V:=F.vars j y lv hy hlk hvis
   cases lv with
   | dat e=>obtain ⟨u,hu,ru⟩:=V;exact ⟨u,hu,ru.mono view⟩
   | own e=>obtain ⟨u,hu,ou⟩:=V;exact ⟨u,hu,ou.mu view⟩
 ·intro b h
  simp [bC0] at h ⊢
  exact ⟨F.wMu b h.1,h.2⟩
 ·intro b h
  simp [bC0] at h
  exact F.wNew b h.1
 ·exact ⟨sub F.wL.1 (Ne.symm hl),fun x c q=>sub (F.wL.2 x c q) (Ne.symm (hc x c q))⟩
 ·intro j e h
  obtain ⟨n,h⟩:=ownLook h
  obtain ⟨a,b,c⟩:=F.own j e h
  exact ⟨sub a (F.ownNe j i e d n h ho),b,c⟩
 ·intro b h
  refine sub (F.muSub b h) fun z=>?_
  obtain ⟨_,o,e,_⟩:=F.mu0 b h
  rw [z,F.wNew _ hw] at e;exact nos e
 ·exact ⟨fun _ _ _ e _=>e,fun a h=>.inl (by simp [bC0] at h;exact h.1),fun a h=>.inl (by simp [bC0] at h;exact h.1),fun a h hwa _=>sub h (fun z=>by rw [z,hw] at hwa;cases hwa),fun _ h=>h,Nat.le_refl _⟩
theorem Frm.newOwn (F:Frm C lev Γ ns A env ah ac ρ W Mu ad s) {i:Nat} {x:Str} {a:Addr} {v:Value} {d:D} {h':Heap} {tk:Nat} (hx:ns[i]?=some x) (hvx:bB6 env.scope x=true) (haW:W a=true) (hn:∀ j e,ρ.lookup j=some (.own e)→ad j≠a)
  (hl:a≠env.locals) (hc:∀ x c,env.cells.lookup x=some c→a≠c) (ov:OwnIs C s.heap Mu v a d) (S:Stored Mu env x v s.heap h') (ht:s.toks≤tk) :
  Frm C lev Γ ns A env ah ac (aA2 ρ i (.own d)) W Mu (fun j=>if j=i then a else ad j) { s with heap:=h',toks:=tk }∧Stp C W Mu s W Mu { s with heap:=h',toks:=tk }:=by
 have cs:=F.can i x hx hvx
 have hs:a≠slot env x:=by
  rcases cs with h | ⟨h,hcc⟩
  ·unfold slot;rw [if_pos h];exact hl
  ·obtain ⟨c,hcc⟩:=Option.isSome_iff_exists.mp hcc
   unfold slot;rw [if_neg (by rw [h];decide),hcc];exact hc x c hcc
 have g:Go C ah { s with heap:=h',toks:=tk }:=F.base.but (fun b=>b=slot env x) (fun b e=>e ▸ F.wNew _ (F.slotW cs)) (fun b o e q=>by obtain ⟨_,o',q',t⟩:=F.mu _ S.inMu;rw [e,q'] at q;obtain rfl:=Option.some.inj q;exact t) fun b o hb e=>S.keep b o hb e
 have ownLook:∀ {j e},(aA2 ρ i (.own d)).lookup j=some (.own e)→(j=i∧e=d)∨(j≠i∧ρ.lookup j=some (.own e)):=fun {j e} h=>by
  rw [aB9] at h
  split at h
  ·rename_i q;cases h;exact .inl ⟨q,rfl⟩
  ·rename_i q;exact .inr ⟨q,h⟩
 refine ⟨⟨F.fns,F.kit,F.room,F.ok0,F.mu0,F.ok0.go g,aM7 F.tok ht,F.envOk,S.mu F.mu,S.frame,F.nodup,?_,F.wMu,F.wNew,F.wL,?_,?_,g,aA9 F.tk ht,F.muSub,F.can⟩,?_⟩
 ·intro j y lv hy hlk hvis
  rw [aB9] at hlk
  split at hlk
  ·rename_i q
   subst q;obtain rfl:=Option.some.inj hlk
   rw [hx] at hy;obtain rfl:=Option.some.inj hy
   refine ⟨v,S.has,?_⟩
   show OwnIs C h' Mu v (if j=j then a else ad j) d
   rw [if_pos rfl]
   exact ov.off fun b o hb e=>S.keep b o (fun z=>by
    rcases hb with hb | hb
    ·rw [z,S.inMu] at hb;cases hb
    ·exact hs (hb.symm.trans z)) e
  ·rename_i q
   have hy':y≠x:=fun z=>q (bE5 F.nodup.1 (z ▸ hy) hx)
   have V:=F.vars j y lv hy hlk hvis
   cases lv with
   | dat e=>obtain ⟨u,hu,ru⟩:=V;exact ⟨u,S.others y u hy' hu,ru.mono S.view⟩
   | own e =>
    obtain ⟨u,hu,ou⟩:=V
    refine ⟨u,S.others y u hy' hu,?_⟩
    show OwnIs C h' Mu u (if j=i then a else ad j) e
    rw [if_neg q]
    exact ou.off fun b o hb eb=>S.keep b o (fun z=>by
     rcases hb with hb | hb
     ·rw [z,S.inMu] at hb;cases hb
     ·exact F.slotNe cs hlk (hb.symm.trans z)) eb
 ·intro j e h
  rcases ownLook h with ⟨q,_⟩ | ⟨q,h⟩
  ·show W (if j=i then a else ad j)=true∧(if j=i then a else ad j)≠env.locals∧_
   simp only [if_pos q]
   exact ⟨haW,hl,hc⟩
  ·show W (if j=i then a else ad j)=true∧(if j=i then a else ad j)≠env.locals∧_
   simp only [if_neg q]
   exact F.own j e h
 ·intro j k e f n h1 h2
  show (if j=i then a else ad j)≠(if k=i then a else ad k)
  rcases ownLook h1 with ⟨q,_⟩ | ⟨q,h1⟩<;>rcases ownLook h2 with ⟨q',_⟩ | ⟨q',h2⟩
  ·exact absurd (q.trans q'.symm) n
  ·rw [if_pos q,if_neg q'];exact Ne.symm (hn k f h2)
  ·rw [if_neg q,if_pos q'];exact hn j e h1
  ·rw [if_neg q,if_neg q'];exact F.ownNe j k e f n h1 h2
 ·refine ⟨fun b o hwb e c=>S.keep b o (fun z=>by rw [z,F.slotW cs] at hwb;cases hwb) e,fun _ h=>.inl h,fun _ h=>.inl h,fun _ h _ _=>h,fun b h=>?_,ht⟩
  obtain ⟨o,e⟩:=Option.isSome_iff_exists.mp h
  show (h'.get? b).isSome=true
  by_cases q:b=slot env x
  ·obtain ⟨_,o',e',t'⟩:=F.mu _ S.inMu
   obtain ⟨o'',e'',_⟩:=S.turns o' e' t'
   rw [q,e''];rfl
  ·rw [S.keep b o q e];rfl
end
end Mine
end
section
open PySem PySem.W PyProof.Rows PySem.Calls PySem.Spec
set_option autoImplicit false
namespace Mine
section
variable {prog:Program} {w:World} {A:Around} {E:Value→Shared→Prop} {s:Shared}
theorem aW5 {h:Heap} {l:Addr} {vs:List Value} {n:Nat} (e:h.get? l=some (aB2 vs n)) (f:Array Value→Array Value):∃ n',(h.update l (Obj.mapSeq f)).get? l=some (aB2 (f vs.toArray).toList n'):=by
 refine ⟨if (f vs.toArray).size == vs.toArray.size then n else n+1,?_⟩
 rw [Heap.get?_update_self _ e (by rfl)]
 simp [Obj.mapSeq]
theorem bD0 {h:Heap} {l:Addr} (f:Obj→Obj):∀ b o,b≠l→h.get? b=some o→(h.update l f).get? b=some o:=fun _ _ n e=>(Heap.get?_update_other _ _ (Ne.symm n)).trans e
theorem bE3 {l:Addr} {vs:List Value} {n:Nat} {x:Value} {Q:Value→Shared→Prop} (e:s.heap.get? l=some (aB2 vs n)) (hz:vs.length≤sizeLine)
  (h:∀ h' n',(∀ b o,b≠l→s.heap.get? b=some o→h'.get? b=some o)→h'.get? l=some (aB2 (vs++[x]) n')→Q .none { s with heap:=h' }):wpAny (model prog w) A (call (.builtin "list.append") [.ref l,x]) Q E s :=
 append_at (hsz:=hz) e fun h' hs' e'=>h h' (n+1) hs'.extBut (by simpa using e')
theorem cQ1 {l b:Addr} {vs us:List Value} {n m:Nat} {Q:Value→Shared→Prop} (e:s.heap.get? l=some (aB2 vs n)) (e2:s.heap.get? b=some (aB2 us m)) (hz:vs.length≤lim) (hz2:us.length≤lim)
  (h:∀ h' n',(∀ b o,b≠l→s.heap.get? b=some o→h'.get? b=some o)→h'.get? l=some (aB2 (vs++us) n')→Q .none { s with heap:=h' }):wpAny (model prog w) A (call (.builtin "list.extend") [.ref l,.ref b]) Q E s:=by
 have hl:vs.length+us.length≤sizeLine:=aA9 (Nat.add_le_add hz hz2) (by decide)
 refine call_meets PySem.F.slot_list_extend ⟨_,e,rfl⟩ PySem.F.entry_list_extend (PySem.F.args_list_extend_2 _ _) (PySem.AutoSeq1.list_extend_list_list_0 l vs.toArray n b us.toArray m ?_ ?_ ?_) ⟨e,e2,?_⟩
 ·simp [Builtin.List.listTooLong];intro _;exact hl
 ·simp;exact bB7 hl
 ·simp;exact aX4 hz hz2 rfl
 ·obtain ⟨n',e'⟩:=aW5 e (fun x=>x++us.toArray)
  exact h _ n' (bD0 _) (by simpa using e')
theorem cG5 {l b:Addr} {vs us:List Value} {n m:Nat} {Q:Value→Shared→Prop} (e:s.heap.get? l=some (aB2 vs n)) (e2:s.heap.get? b=some (aU9 us m)) (hz:vs.length≤lim) (hz2:us.length≤lim)
  (h:∀ h' n',(∀ b o,b≠l→s.heap.get? b=some o→h'.get? b=some o)→h'.get? l=some (aB2 (vs++us) n')→Q .none { s with heap:=h' }):wpAny (model prog w) A (call (.builtin "list.extend") [.ref l,.ref b]) Q E s:=by
 have hl:vs.length+us.length≤sizeLine:=aA9 (Nat.add_le_add hz hz2) (by decide)
 refine call_meets PySem.F.slot_list_extend ⟨_,e,rfl⟩ PySem.F.entry_list_extend (PySem.F.args_list_extend_2 _ _) (PySem.AutoSeq1.list_extend_list_tuple_0 l vs.toArray n b us.toArray m ?_ ?_ ?_) ⟨e,e2,?_⟩
 ·simp [Builtin.List.listTooLong];intro _;exact hl
 ·simp;exact bB7 hl
 ·simp;exact aX4 hz hz2 rfl
 ·obtain ⟨n',e'⟩:=aW5 e (fun x=>x++us.toArray)
  exact h _ n' (bD0 _) (by simpa using e')
theorem dZ7 {l:Addr} {vs:List Value} {n:Nat} {k:Int} {t:Tok} {y:Value} {Q:Value→Shared→Prop} (e:s.heap.get? l=some (aB2 vs n)) (h0:0≤k) (h1:k < vs.length) (hz:vs.length≤lim) (hy:vs[k.toNat]?=some y)
  (h:∀ h' n',(∀ b o,b≠l→s.heap.get? b=some o→h'.get? b=some o)→h'.get? l=some (aB2 (vs.eraseIdx k.toNat) n')→Q y { s with heap:=h' }):wpAny (model prog w) A (call (.builtin "list.pop") [.ref l,.int k t]) Q E s:=by
 have hz':vs.length≤4096:=hz
 refine call_meets PySem.F.slot_list_pop ⟨_,e,rfl⟩ PySem.F.entry_list_pop (PySem.F.args_list_pop_2 _ _) (PySem.MeetsSeq.list_pop_at l vs.toArray n k t k.toNat y ?_ ?_ (by simpa using hy) (by simp;exact aA9 hz (by decide))) ⟨e,?_⟩
 ·simp [Builtin.List.listFitsIndex];exact aV7 (cI2 (bA0 rfl) h0) (bB8 (i_l h1) (dE4 hz' rfl))
 ·unfold seqIndex?
  have:¬ k < 0:=dR9 h0
  simp [this];exact aV7 h0 h1
 ·obtain ⟨n',e'⟩:=aW5 e (fun xs=>xs.eraseIdxIfInBounds k.toNat)
  refine h _ n' (bD0 _) ?_
  rw [e']
  congr 2
  have hk:k.toNat < vs.length:=eP2 h0 h1
  simp [Array.eraseIdxIfInBounds,hk]
theorem cQ0 {l:Addr} {vs:List Value} {n:Nat} {k:Int} {t:Tok} {y:Value} {Q:Value→Shared→Prop} (e:s.heap.get? l=some (aB2 vs n)) (h0:0≤k) (h1:k≤vs.length) (hz:vs.length≤lim)
  (h:∀ h' n',(∀ b o,b≠l→s.heap.get? b=some o→h'.get? b=some o)→h'.get? l=some (aB2 (vs.take k.toNat++y::vs.drop k.toNat) n')→Q .none { s with heap:=h' }):wpAny (model prog w) A (call (.builtin "list.insert") [.ref l,.int k t,y]) Q E s:=by
 have hz':vs.length≤4096:=hz
 refine call_meets PySem.F.slot_list_insert ⟨_,e,rfl⟩ PySem.F.entry_list_insert (PySem.F.args_list_insert_3 _ _ _) (PySem.AutoListH.list_insert_list_int_val_1 l vs.toArray n k t y ?_ (by simp;exact aA9 hz (by decide))) ⟨e,?_⟩
 ·simp [Builtin.List.listFitsIndex];exact aV7 (cI2 (bA0 rfl) h0) (bB8 h1 (dE4 hz' rfl))
 ·obtain ⟨n',e'⟩:=aW5 e (fun xs=>have k:=if k < 0 then (k+((xs.size:Nat):Int)).toNat else min k.toNat xs.size;(xs.extract 0 k).push y++xs.extract k)
  refine h _ n' (bD0 _) ?_
  rw [e']
  congr 2
  have:¬ k < 0:=dR9 h0
  have h2:min k.toNat vs.length=k.toNat:=eK4 (eP5 h1)
  simp only [this,if_false,List.size_toArray,h2]
  simp
  rw [List.take_of_length_le (by simp)]
theorem cG3 {l:Addr} {vs:List Value} {n:Nat} {k:Int} {t:Tok} {v:Value} {Q:Unit→Shared→Prop} (e:s.heap.get? l=some (aB2 vs n)) (h0:0≤k) (hfit:k < 2 ^ 63) (hn:k < vs.length)
  (h:∀ h' n',(∀ b o,b≠l→s.heap.get? b=some o→h'.get? b=some o)→h'.get? l=some (aB2 (vs.set k.toNat v) n')→Q () { s with heap:=h' }):wpAny (model prog w) A (setItem (.ref l) (.int k t) v) Q E s:=by
 have hT:s.TypeIs (.ref l) "list":=⟨_,e,rfl⟩
 unfold setItem
 try with_reducible refine wpAny_holding ?_
 first | refine wpAny_bind (wpAny_pure ?_) | skip
 refine wpAny_bind (wpAny_sequenceKey hT (by decide) ?_)
 refine wpAny_bind (wpAny_callSpecial?_slot (name:=Str.ofString "__setitem__") hT slot_list_setitem
  (wpAny_call_entry slot_list_setitem hT entry_list_setitem ?_ (args_list_setitem _ _ _)))
 show wpAny _ _ (Builtin.List.listSubscript? (.int k t) >>= _) _ _ s
 refine wpAny_bind (wpAny_listSubscript_int (fitsIndex_of h0 hfit) ?_)
 obtain ⟨j,rfl⟩:=Int.eq_ofNat_of_zero_le h0
 have hj:j < vs.length:=eP3 hn
 have hx':vs.toArray[j]?=some vs[j]:=by simp [hj]
 show wpAny _ _ ((seqItemAt l j >>= fun r=>pure (r.map (j,·))) >>= _) _ _ s
 refine wpAny_bind (wpAny_bind (wpAny_seqItemAt e rfl (wpAny_pure ?_)))
 rw [hx']
 show wpAny _ _ (setSeqItemAt l j v >>= _) _ _ s
 obtain ⟨n',e'⟩:=aW5 e (·.setIfInBounds j v)
 have fin:=h _ n' (bD0 _) (by simpa using e')
 refine wpAny_bind (wpAny_setSeqItemAt e rfl ?_)
 first
  | exact wpAny_bind (wpAny_pure (wpAny_pure ⟨.none,rfl,wpAny_pure fin⟩))
  | exact wpAny_pure ⟨.none,rfl,wpAny_pure fin⟩
end
end Mine
end
section
open PySem PySem.W PyProof.Rows PySem.Calls PySem.Spec
set_option autoImplicit false
set_option maxRecDepth 4000
namespace Mine
section
variable {C:Cfg} {lev:Nat} {Γ:List Fn} {ns fs:List Str} {A:Around} {env:Env} {ah:Shared} {ac:Addr→Bool} {ρ:Ro} {W Mu:Addr→Bool} {ad:Nat→Addr} {s s':Shared}
theorem bE2 {h:Heap} {v:Value} {m:Addr} {ds:List D} (o:OwnIs C h Mu v m (.lst ds)):v=.ref m∧∃ vs n,h.get? m=some (aB2 vs n)∧RdL C (Fz h Mu) vs ds:=o.inv
theorem cP9 {h:Heap} {v:Value} {m:Addr} {ds:List D} (o:OwnIs C h Mu v m (.ent ds)) :
  ∃ a dx es n vs k,v=.ref a∧Fz h Mu a=some (instObj C.EC dx)∧Fz h Mu dx=some (dictOf es n)∧getL "useragents" es=some (some (.ref m))∧getL "applies_to" es=some none∧h.get? m=some (aB2 vs k)∧RdL C (Fz h Mu) vs ds:=o.inv
theorem bI7 {sc:Scope} {i:Nat} {x:Str} (h:aB6 ns sc i x=true):ns[i]?=some x∧bB6 sc x=true∧(x == ("__debug__":Str))=false∧(x == ("__classdict__":Str))=false:=by
 simp only [aB6,Bool.and_eq_true,decide_eq_true_eq,Bool.not_eq_true'] at h
 exact ⟨h.1.1.1,h.1.1.2,h.1.2,h.2⟩
theorem aO1 {i:Nat} {d:D} (h:bV0 ρ i=some d):ρ.lookup i=some (.own d):=by
 revert h
 dsimp only [bV0]
 cases ρ.lookup i with
 | none=>intro h;exact nos h
 | some v =>
  cases v with
  | own x=>exact fun h=>Option.some.inj h ▸ rfl
  | dat x=>intro h;exact nos h
theorem aP7 (F:Frm C lev Γ ns A env ah ac ρ W Mu ad s) {i:Nat} {x:Str} {p:Pos} {d:D} (hx:aB6 ns env.scope i x=true) (ho:ρ.lookup i=some (.own d)) :
  ∃ v,HasVar env s.heap x v∧OwnIs C s.heap Mu v (ad i) d∧∀ s',Go C s s'→s.toks≤s'.toks→∀ (Q E:Value→Shared→Prop),Q v s'→wpAny (model C.prog C.w) A (eval (.Name x p) env) Q E s':=by
 refine hid fun Gz zz=>?_
 obtain ⟨h1,h2,h3,h4⟩:=bI7 hx
 obtain ⟨v,hv,ov⟩:=F.vars i x _ h1 ho h2
 refine zz ?_;clear zz Gz
 exact ⟨v,hv,ov,fun s' g t Q E q=>wpAny_Name (bC4 (F.go g t).cx (hv.ext F.mu F.frame g.ext) h4 q) h3⟩
theorem cE9 {x:Str} {p:Pos} {l:Nat} {v:Expr} (eo:EnvOk env) (h:bM3 env.scope x v=true):swapsWith v (some (.Name x p)) l env=pure false:=by
 cases v<;>first | rfl | (cases h;done) | skip
 have hk:env.kindOf x=some .cell:=of_decide_eq_true h
 have hc:(NameKind.cell == NameKind.local)=false:=by decide
 dsimp only [swapsWith]
 simp [hk,hc]
theorem bQ0 {t:Expr} {l:Nat} {v:Expr} (h:bX0 v=true):swapsWith v (some t) l env=pure false:=by
 cases v<;>first | rfl | (cases h;done)
theorem aR8 (F:Frm C lev Γ ns A env ah ac ρ W Mu ad s) {i:Nat} {x:Str} {v:Value} {d:D} {Q:Unit→Shared→Prop} {E:Value→Shared→Prop} (hx:ns[i]?=some x) (hv:bB6 env.scope x=true) (r:Rd C (Fz s.heap Mu) v d)
  (k:∀ s',Frm C lev Γ ns A env ah ac (aA2 ρ i (.dat d)) W Mu ad s'→Stp C W Mu s W Mu s'→Q () s'):wpAny (model C.prog C.w) A (storeName env x v) Q E s:=by
 have cs:=F.can i x hx hv
 refine aM1 F.envOk F.frame cs fun h' tk S ht=>?_
 have P:Put C Mu env [x] s.heap h':=⟨fun y u hy=>S.others y u (fun z=>hy (z ▸ .head _)),fun b o hb e=>S.keep b o (hb x (.head _)) e,S.mu F.mu,S.frame,S.view,fun y hy=>by rw [List.mem_singleton.mp hy];exact S.inMu⟩
 obtain ⟨F',st⟩:=F.bound (bs:=[(i,d)]) (fun y hy=>by rw [List.mem_singleton.mp hy];exact cs) P
  (fun j d' m=>by cases List.mem_singleton.mp m;exact ⟨x,v,hx,S.has,r.mono S.view⟩) (fun y hy=>by rw [List.mem_singleton.mp hy];exact ⟨i,d,.head _,hx⟩) ht
 exact k _ F' st
theorem aW9 (F:Frm C lev Γ ns A env ah ac ρ W Mu ad s) {i:Nat} {x:Str} {v:Value} {a:Addr} {d:D} {aa:Shared} {Q:Unit→Shared→Prop} {E:Value→Shared→Prop} (hx:ns[i]?=some x) (hv:bB6 env.scope x=true)
  (g:Go C s aa) (t:s.toks≤aa.toks) (ha:s.heap.get? a=none) (o:OwnIs C aa.heap (bL1 Mu a) v a d)
  (k:∀ W' Mu' ad' s',Frm C lev Γ ns A env ah ac (aA2 ρ i (.own d)) W' Mu' ad' s'→Stp C W Mu s W' Mu' s'→Q () s'):wpAny (model C.prog C.w) A (storeName env x v) Q E aa:=by
 have cs:=F.can i x hx hv
 have h0:ah.heap.get? a=none:=by
  cases e:ah.heap.get? a with
  | none=>rfl
  | some ob =>
   by_cases q:a=C.PT
   ·obtain ⟨o',e',_⟩:=C.tabNone _ F.ok.tab
    rw [q,e'] at ha;exact nos ha.symm
   ·rw [F.base.ext a ob e (.inr q)] at ha;exact nos ha.symm
 have nMu:∀ b,Mu b=true→b≠a:=fun b hb z=>by
  obtain ⟨_,ob,e,_⟩:=F.mu b hb
  rw [z,ha] at e;exact nos e
 have aD:=(F.addMu ha g t o.at).addW (aP2 _ _) h0
 refine aM1 aD.envOk aD.frame cs fun h' tk S ht=>?_
 obtain ⟨bf,st⟩:=aD.newOwn (d:=d) hx hv (aP2 _ _) (fun j e hj=>nMu _ (F.wMu _ (F.own j e hj).1)) (Ne.symm (nMu _ F.frame.muL)) (fun y c q=>Ne.symm (nMu _ (F.frame.muC y c q))) o S ht
 refine k _ _ _ _ bf ?_
 have eC:Stp C W Mu s (bL1 W a) (bL1 Mu a) aa:=by
  have q:=Go.stp (W:=W) (Mu:=Mu) g F.ok.tab t
  exact ⟨q.keep,fun b hb=>by
   rcases aD0 hb with z | z
   ·exact .inl z
   ·exact .inr (z ▸ ha),fun b hb=>by
   rcases aD0 hb with z | z
   ·exact .inl z
   ·exact .inr (z ▸ ha),fun b hb _ _=>aH3 hb,q.has,t⟩
 exact eC.trans st
inductive IopIs:BOp→D→D→D→Prop
 | add (i j:Int):IopIs .add (.int i) (.int j) (.int (i+j))
 | str {x y:Str}:x.length+y.length≤lim→IopIs .add (.str x) (.str y) (.str (x++y))
 | fdiv {i j:Int}:0 < j∧j < 2 ^ 29→IopIs .fdiv (.int i) (.int j) (.int (i.fdiv j))
theorem eB9 {op:BOp} {a b:D}:Al (dR4 op a b) (IopIs op a b):=by
 cases op with
 | add=>cases a with
  | int i=>cases b with
   | int j=>exact Al.some (.add i j)
   | _=>exact Al.none
  | str x=>cases b with
   | str y=>exact Al.ite fun hz=>Al.some (.str hz)
   | _=>exact Al.none
  | _=>exact Al.none
 | fdiv=>cases a with
  | int i=>cases b with
   | int j=>exact Al.ite fun hz=>Al.some (.fdiv hz)
   | _=>exact Al.none
  | _=>exact Al.none
 | _=>exact Al.none
theorem dJ9 {op:BOp} {a b d:D} {u v:Value} {Q E:Value→Shared→Prop} {Mv:Addr→Bool} (h:dR4 op a b=some d) (ru:Rd C (Fz s.heap Mv) u a) (rv:Rd C (Fz s.heap Mu) v b)
  (k:∀ w s',Go C s s'→s'.heap=s.heap→s.toks≤s'.toks→Rd C (Fz s'.heap Mu) w d→dE1 d=true→Q w s'):wpAny (model C.prog C.w) A (inplaceOp (bO4 op) u v) Q E s:=by
 cases eB9 _ h with
 | add i j =>
  obtain ⟨t,rfl⟩:=ru.inv
  obtain ⟨t',rfl⟩:=rv.inv
  exact P.iadd_int (k _ _ .tok rfl (Nat.le_succ _) (.int _ _) rfl)
 | str hz =>
  obtain ⟨t,rfl⟩:=ru.inv
  obtain ⟨t',rfl⟩:=rv.inv
  exact wpAny_with_toks (n:=s.toks) (Nat.le_refl _) (SB.iadd (hsz:=aA9 hz (by decide)) fun t' tk ht=>k _ _ .tok rfl ht (.str _ _) rfl)
 | fdiv hz =>
  obtain ⟨t,rfl⟩:=ru.inv
  obtain ⟨t',rfl⟩:=rv.inv
  exact AutoIntOps.ifloordiv_1 (by simp;omega) (by rw [PyProof.noPylong_small (dS0 (i_l hz.1) hz.2 rfl)];exact Bool.false_ne_true) (k _ _ .tok rfl (Nat.le_succ _) (.int _ _) rfl)
theorem aT7 {Mw:Addr→Bool} {o a:Expr} {ap p:Pos} {name:Str} {id:String} {l:Addr} {vs:List Value} {n:Nat} {d:D} {Q E:Value→Shared→Prop} (X:Cx C lev Γ ns A env ρ Mu s) (hsl:Slot "list" name id) (hty:typeOf (.builtin id)=pure (.type "method_descriptor"))
  (hp:(ap.endLine == p.line)=true) (hs:aA8 a=true) (hb:attributeBase o name env (eval o env)=eval o env)
  (ho:∀ (Q E:Value→Shared→Prop),(∀ aa,Go C s aa→s.toks≤aa.toks→Q (.ref l) aa)→wpAny (model C.prog C.w) A (eval o env) Q E s) (hl:s.heap.get? l=some (aB2 vs n))
  (ha:∀ aa,Go C s aa→Cx C lev Γ ns A env ρ Mu aa→PE C A Mw (eval a env) aa d)
  (k:∀ v ai,Go C s ai→s.toks≤ai.toks→ai.heap.get? l=some (aB2 vs n)→Rd C (Fz ai.heap Mw) v d→wpAny (model C.prog C.w) A (call (.builtin id) [.ref l,v]) Q E ai) :
  wpAny (model C.prog C.w) A (eval (.Call (.Attribute o name ap) [a] [] p) env) Q E s:=by
 refine aT2 hb hp (by rw [aA5 hs];rfl) (ho _ _ fun aa aj ax=>fun pl=>?_)
 have cQ:=aj.ext _ _ hl (.inl Value.noConfusion)
 refine getMethod_builtin ⟨_,cQ,rfl⟩ PySem.F.plainAttrs_list hsl hty (fun a e=>by cases e;exact ⟨_,cQ,rfl⟩) ?_
 rw [aA5 hs,aD9]
 refine callWith_builtin rfl (evalArgs_plain (spliced_cons ((ha aa aj (X.go aj ax)).toks _ _ fun v ai al aF r=>spliced_nil ?_)))
 exact k v ai (aj.trans al) (aA9 ax aF) (al.ext _ _ cQ (.inl Value.noConfusion)) r
noncomputable def Done (C:Cfg) (lev:Nat) (Γ:List Fn) (ns:List Str) (A:Around) (env:Env) (ah:Shared) (ac:Addr→Bool) (W Mu:Addr→Bool) (s:Shared) (o:Out) (Q:Flow→Shared→Prop):Prop :=
 match o with
 | .next ao=>∀ W' Mu' ad' s',Frm C lev Γ ns A env ah ac ao W' Mu' ad' s'→Stp C W Mu s W' Mu' s'→Q .next s'
 | .brk ao=>∀ W' Mu' ad' s',Frm C lev Γ ns A env ah ac ao W' Mu' ad' s'→Stp C W Mu s W' Mu' s'→Q .brk s'
 | .ret d=>∀ v s',Go C ah s'→ah.toks≤s'.toks→Rd C (Fz s'.heap ac) v d→Q (.ret v) s'
theorem Done.after {W' Mu':Addr→Bool} {o:Out} {Q:Flow→Shared→Prop} (d:Done C lev Γ ns A env ah ac W Mu s o Q) (st:Stp C W Mu s W' Mu' s'):Done C lev Γ ns A env ah ac W' Mu' s' o Q:=by
 cases o with
 | next ao=>exact fun W'' Mu'' ad' s'' F q=>d W'' Mu'' ad' s'' F (st.trans q)
 | brk ao=>exact fun W'' Mu'' ad' s'' F q=>d W'' Mu'' ad' s'' F (st.trans q)
 | ret x=>exact d
end
end Mine
end
section
open PySem PySem.W PyProof.Rows PySem.Calls PySem.Spec
set_option autoImplicit false
set_option maxRecDepth 4000
namespace Mine
section
variable {C:Cfg} {lev:Nat} {Γ:List Fn} {ns fs:List Str} {A:Around} {env:Env} {ah:Shared} {ac:Addr→Bool} {ρ:Ro} {W Mu:Addr→Bool} {ad:Nat→Addr} {s s':Shared}
theorem Frm.fresh0 (F:Frm C lev Γ ns A env ah ac ρ W Mu ad s) {a:Addr} (ha:s.heap.get? a=none):ah.heap.get? a=none:=by
 cases e:ah.heap.get? a with
 | none=>rfl
 | some ob =>
  by_cases q:a=C.PT
  ·obtain ⟨o',e',_⟩:=C.tabNone _ F.ok.tab
   rw [q,e'] at ha;exact nos ha.symm
  ·rw [F.base.ext a ob e (.inr q)] at ha;exact nos ha.symm
theorem Stp.at {W' Mu':Addr→Bool} {a:Addr} {h':Heap} {tk:Nat} (q:Stp C W Mu s W' Mu' s') (ha:s.heap.get? a=none) (k:∀ b o,b≠a→s'.heap.get? b=some o→h'.get? b=some o) (ht:s'.toks≤tk):Stp C W Mu s W' Mu' { s' with heap:=h',toks:=tk } where
 keep:=fun b o hw e c=>k b o (fun z=>by rw [z,ha] at e;exact nos e) (q.keep b o hw e c)
 new:=q.new
 newMu:=q.newMu
 resv:=q.resv
 has:=fun b h=>by
  obtain ⟨o,e⟩:=Option.isSome_iff_exists.mp (q.has b h)
  have:h'.get? b=some o:=k b o (fun z=>by rw [z,ha] at h;exact noB h) e
  show (h'.get? b).isSome=true
  rw [this];rfl
 tk:=aA9 q.tk ht
theorem Stp.sub {W' Mu':Addr→Bool} {a:Addr} (q:Stp C W Mu s W' Mu' s') (ha:s.heap.get? a=none):Stp C W Mu s W' (bC0 Mu' a) s' where
 keep:=q.keep
 new:=q.new
 newMu:=fun b h=>q.newMu b (by simp [bC0] at h;exact h.1)
 resv:=fun b h hw hs=>by
  have:=q.resv b h hw hs
  have ne:b≠a:=fun z=>by rw [z,ha] at hs;exact noB hs
  simp [bC0,this,ne]
 has:=q.has
 tk:=q.tk
theorem eQ0 {prog:Program} {w:World} {A:Around} {s:Shared} {R:Result→Shared→Prop} {target:Expr} {it:Value} {body:List Stmt} {env:Env} (I:Nat→Shared→Prop)
  (turn:∀ n s,I n s→∀ (E:Value→Shared→Prop) (K0:Option Value→Shared→Prop) (KB:Flow→Shared→Prop) (K5:Shared→Prop),(∀ aa,R (.ok .next) aa→K0 none aa) →
   (∀ v aa,wpAny (model prog w) A (letOwnedTupleGo target it v) (fun _ bz=>wpAny (model prog w) A (assign target env v) (fun _ ai=>wpAny (model prog w) A (execs body env) KB E ai) E bz) E aa→K0 (some v) aa) →
   (∀ ar,K5 ar→KB .next ar)→(∀ ar,R (.ok .next) ar→KB .brk ar)→(∀ v ar,R (.ok (.ret v)) ar→KB (.ret v) ar)→(∀ m s',m < n→I m s'→K5 s')→wpAny (model prog w) A (pyNext it) K0 E s)
  (n:Nat) (h:I n s):codeAny (model prog w) A (.forLoop target it body [] env) R s :=
 codeAny_forLoop_any I (fun n s hI=>turn n s hI _ _ _ _ (fun _ h=>wpAny_execs_nil h) (fun _ _ h=>h) (fun _ h=>h) (fun _ h=>h) (fun _ _ h=>h) fun m _ a b=>⟨m,a,b⟩) n h
theorem cB3 {target iter:Expr} {body:List Stmt} {pos:Pos} {names:List Str} {bnd:D→Option (List (Nat × D))} {ds:List D} {bodyRun:Ro→Option Out} {o:Out} {Q:Flow→Shared→Prop} {E:Value→Shared→Prop}
  (F:Frm C lev Γ ns A env ah ac ρ W Mu ad s) (hset:aP3 iter) (hit:bU8 C A Mu env iter s ds) (hcan:∀ x∈names,∃ i:Nat,ns[i]?=some x∧bB6 env.scope x=true) (tks:cK7 C A ns target names bnd)
  (own:∀ I fp P St aa,Itr C A I Mu ds fp P St aa→∀ i j (s':Shared) v (Q:Unit→Shared→Prop) (E:Value→Shared→Prop),St i s'.heap→P j v→Q () s'→wpAny (model C.prog C.w) A (letOwnedTupleGo target (.ref I) v) Q E s')
  (hr:aH0 (fun d ρ=>(bnd d).bind fun bs=>bodyRun (aD2 bs ρ)) ds ρ=some o)
  (hbody:∀ ao W' Mu' ad' s' o' (Q':Flow→Shared→Prop) (E':Value→Shared→Prop),Frm C lev Γ ns A env ah ac ao W' Mu' ad' s'→bodyRun ao=some o'→Done C lev Γ ns A env ah ac W' Mu' s' o' Q'→wpAny (model C.prog C.w) A (execs body env) Q' E' s')
  (K:Done C lev Γ ns A env ah ac W Mu s o Q):wpAny (model C.prog C.w) A (exec (.For target iter body [] pos) env) Q E s:=by
 have hs:∀ x,foldedSetIterable iter env x=pure x:=hset env
 refine wpAny_For (hit _ _ fun aa I fp P St ai aj ax hI itr al aF st=>?_) hs
 have aD:=F.go aj ax
 refine hid fun Gz zz=>?_
 obtain ⟨oI,eI,c1,c2⟩:=itr.cls _ _ st
 refine zz ?_;clear zz Gz
 have bf:=aD.addMu hI al aF ⟨oI,eI,c1,c2⟩
 have hWI:W I=false:=by
  cases q:W I with
  | false=>rfl
  | true =>
   obtain ⟨_,o',e',_⟩:=aD.mu I (aD.wMu I q)
   rw [hI] at e';exact nos e'
 have h0:=aD.fresh0 hI
 have fpW:∀ {W' Mu':Addr→Bool} {s':Shared},Stp C W Mu aa W' Mu' s'→W' I=false→∀ b∈fp,W' b=false:=fun {W' Mu' s'} q hi b hb=>by
  rcases itr.fpOld b hb with rfl | ⟨hm,o',e'⟩
  ·exact hi
  ·refine q.off ?_ ((e') ▸ rfl)
   cases z:W b with
   | false=>rfl
   | true=>rw [aD.wMu b z] at hm;cases hm
 refine eQ0 (fun n s'=>∃ i ao W' Mu' ad',i≤ds.length∧n=ds.length+1 - i∧aH0 (fun d ρ=>(bnd d).bind fun bs=>bodyRun (aD2 bs ρ)) (ds.drop i) ao=some o∧Frm C lev Γ ns A env ah ac ao W' Mu' ad' s' ∧
   Stp C W Mu aa W' Mu' s'∧St i s'.heap∧Mu' I=true∧W' I=false) ?_ (ds.length+1) ⟨0,ρ,W,bL1 Mu I,ad,Nat.zero_le _,rfl,hr,bf,?_,st,aP2 _ _,hWI⟩
 ·intro n s' hI' E' K0 KB K5 hn hs' hnx hbk hrt hK
  refine hid fun Gz zz=>?_
  obtain ⟨i,ao,W',Mu',ad',hi,rfl,hgo,F',q,st',hMI,hWI'⟩:=hI'
  refine zz ?_;clear zz Gz
  have stp0:=aj.stp (W:=W) (Mu:=Mu) F.ok.tab ax
  by_cases hlt:i < ds.length
  ·refine wpAny_with_toks (n:=s'.toks) (Nat.le_refl _) (itr.walks.item i _ _ _ hlt st' fun v av bJ hPv bd a8 be=>?_)
   have bL:∀ b o,b≠I→s'.heap.get? b=some o→av.get? b=some o:=fun b o hb e=>a8 b o (by simpa using hb) e
   obtain ⟨d,hd,rd⟩:=itr.item i v hPv
   have hdrop:ds.drop i=d::ds.drop (i+1):=by
    rw [List.drop_eq_getElem_cons hlt]
    rw [List.getElem?_eq_getElem hlt] at hd;obtain rfl:=Option.some.inj hd;rfl
   rw [hdrop,aH0] at hgo
   obtain ⟨o',ho',hgo⟩:=Option.bind_eq_some_iff.mp hgo
   obtain ⟨bs,hbs,hrun⟩:=Option.bind_eq_some_iff.mp ho'
   have aR:=F'.aside (tk:=bJ) hMI hWI' h0 bL (let ⟨o,e,a,b⟩:=itr.cls _ _ bd;⟨o,e,a,b⟩) be
   have bQ:Stp C W Mu aa W' Mu' { s' with heap:=av,toks:=bJ }:=q.at hI bL be
   refine hs' _ _ (own _ _ _ _ _ itr _ _ _ _ _ _ bd hPv ?_)
   have view:VLe (Fz aa.heap Mu) (Fz av Mu'):=fun a o e c=>by
    dsimp only [Fz] at e ⊢
    by_cases m:Mu a=true
    ·rw [if_pos m] at e;exact nos e
    ·rw [if_neg m] at e
     have hWa:W a=false:=by
      cases z:W a with
      | false=>rfl
      | true=>exact absurd (aD.wMu a z) m
     rw [if_neg fun z=>by
      rcases q.newMu a z with z | z
      ·exact m z
      ·rw [e] at z;cases z]
     exact bQ.keep a o hWa e (.inl c)
   have cs:∀ x∈names,aE7 env x:=fun x hx=>let ⟨i,a,b⟩:=hcan x hx;F.can i x a b
   refine tks env _ Mu' v d bs aR.envOk aR.frame aR.mu cs (rd.mono view) hbs _ _ fun aL bx pt hbd hnm bD=>?_
   obtain ⟨bo,bE⟩:=aR.bound cs pt hbd hnm bD
   have bv:St (i+1) aL:=itr.walks.frame _ _ _ bd fun b hb o e=>bE.keep b o (fpW q hWI' b hb) e (.inr (itr.fpOk b hb))
   refine hbody _ _ _ _ _ o' _ _ bo hrun ?_
   have stNext:∀ {W'' Mu'':Addr→Bool} {s'':Shared},Stp C W' Mu' { s' with heap:=aL,toks:=bx } W'' Mu'' s''→St (i+1) s''.heap∧Mu'' I=true∧W'' I=false:=fun {W'' Mu'' s''} p=>by
    have hasI:(aL.get? I).isSome=true:=by
     refine hid fun Gz zz=>?_
     obtain ⟨_,o',e',_⟩:=bo.mu I hMI
     refine zz ?_;clear zz Gz
     have e'':aL.get? I=some o':=e'
     rw [e''];rfl
    exact ⟨itr.walks.frame _ _ _ bv fun b hb o e=>p.keep b o (fpW q hWI' b hb) e (.inr (itr.fpOk b hb)),p.resv I hMI hWI' hasI,p.off hWI' hasI⟩
   cases o' with
   | next bF =>
    intro W'' Mu'' ad'' s'' F'' p
    obtain ⟨a,b,c⟩:=stNext p
    exact hnx _ (hK _ _ (cO8 hlt) ⟨i+1,bF,W'',Mu'',ad'',hlt,rfl,hgo,F'',(bQ.trans bE).trans p,a,b,c⟩)
   | brk bF =>
    cases hgo
    intro W'' Mu'' ad'' s'' F'' p
    obtain ⟨a,b,c⟩:=stNext p
    have Fd:=F''.drop (tk:=s''.toks) (h':=s''.heap) b c h0 (fun _ _ _ e=>e) (Nat.le_refl _)
    exact hbk _ (K _ _ _ _ Fd (stp0.trans (((bQ.trans bE).trans p).sub hI)))
   | ret d' =>
    cases hgo
    exact fun v s' a b c=>hrt _ _ (K v s' a b c)
  ·have hie:i=ds.length:=cO7 hi hlt
   subst hie
   refine wpAny_with_toks (n:=s'.toks) (Nat.le_refl _) (itr.walks.done _ _ _ st' fun h' tk hk htk=>?_)
   rw [List.drop_length] at hgo
   obtain rfl:=Option.some.inj hgo
   have hk':∀ b o,b≠I→s'.heap.get? b=some o→h'.get? b=some o:=fun b o hb e=>hk b o (by simpa using hb) e
   have Fd:=F'.drop (tk:=tk) hMI hWI' h0 hk' htk
   exact hn _ (K _ _ _ _ Fd (stp0.trans ((q.at hI hk' htk).sub hI)))
 ·have q:=al.stp (W:=W) (Mu:=Mu) aD.ok.tab aF
  exact ⟨q.keep,q.new,fun b h=>by
   rcases aD0 h with z | z
   ·exact .inl z
   ·exact .inr (z ▸ hI),fun b h _ _=>aH3 h,q.has,q.tk⟩
end
end Mine
end
section
open PySem PySem.W PyProof.Rows PySem.Calls PySem.Spec
set_option autoImplicit false
set_option maxRecDepth 4000
namespace Mine
section
variable {C:Cfg} {lev:Nat} {Γ:List Fn} {ns fs:List Str} {A:Around} {env:Env} {ah:Shared} {ac:Addr→Bool} {ρ:Ro} {W Mu:Addr→Bool} {ad:Nat→Addr} {s s':Shared}
theorem cI0 {kvs:List (Key × Int)} {o:Expr} {apos pos:Pos} (hp:(apos.endLine == pos.line)=true) (ho:aJ6 o) (h:PE C A Mu (eval o env) s (.dct kvs)) {Q E:Value→Shared→Prop}
  (k:∀ a v aa,Go C s aa→s.toks≤aa.toks→Rd C (Fz aa.heap Mu) (.ref a) (.dct kvs)→aa.heap.IsItemsView v a→Q (.ref v) aa):wpAny (model C.prog C.w) A (eval (.Call (.Attribute o "items" apos) [] [] pos) env) Q E s:=by
 refine bT3 PySem.F.slot_dict_items PySem.F.type_dict_items hp ho h fun a s' g t r=>?_
 refine hid fun Gz zz=>?_
 obtain ⟨a',ps,e,dy,iy,zy⟩:=aM3 r
 refine zz ?_;clear zz Gz
 cases e
 refine call_meetsIn PySem.F.slot_dict_items dy.mapOf.typeIs PySem.F.entry_dict_items (PySem.F.args_dict_items_1 _) (meets_dict_items (aC0 C.prog C.w) a zy) ⟨⟨ps,dy⟩,?_⟩
 have gp:Go C s' { s' with heap:=s'.heap.push { cls:=.type "dict_items",data:=.fields #[.ref a] } }:=.push _
 exact k a _ _ (g.trans gp) t (r.go gp) ⟨_,Heap.get?_push_size _ rfl,rfl,rfl⟩
theorem cS8 {x y:Str} {p q:Pos} {n:Nat} {tp:Pos} {i j:Nat} {iter:Expr} {body:List Stmt} {pos:Pos} {kvs:List (Key × Int)} {bodyRun:Ro→Option Out} {o:Out} {Q:Flow→Shared→Prop} {E:Value→Shared→Prop}
  (F:Frm C lev Γ ns A env ah ac ρ W Mu ad s) (hset:aP3 iter)
  (hit:∀ (Q E:Value→Shared→Prop),(∀ a v aa,Go C s aa→s.toks≤aa.toks→Rd C (Fz aa.heap Mu) (.ref a) (.dct kvs)→aa.heap.IsItemsView v a→Q (.ref v) aa)→wpAny (model C.prog C.w) A (eval iter env) Q E s)
  (hx:ns[i]?=some x∧bB6 env.scope x=true) (hy:ns[j]?=some y∧bB6 env.scope y=true) (hxy:x≠y)
  (hr:aH0 (fun d ρ=>(cK0 i j d).bind fun bs=>bodyRun (aD2 bs ρ)) (aN0 kvs) ρ=some o)
  (hbody:∀ ao W' Mu' ad' s' o' (Q':Flow→Shared→Prop) (E':Value→Shared→Prop),Frm C lev Γ ns A env ah ac ao W' Mu' ad' s'→bodyRun ao=some o'→Done C lev Γ ns A env ah ac W' Mu' s' o' Q'→wpAny (model C.prog C.w) A (execs body env) Q' E' s')
  (K:Done C lev Γ ns A env ah ac W Mu s o Q):wpAny (model C.prog C.w) A (exec (.For (.Tuple [.Name x p,.Name y q] n tp) iter body [] pos) env) Q E s:=by
 have hs:∀ x,foldedSetIterable iter env x=pure x:=hset env
 have tks:=bZ4 (C:=C) (A:=A) (ns:=ns) (p:=p) (q:=q) (pos:=tp) (n:=n) F.room.handled hx.1 hy.1 hxy
 have hcan:∀ z∈[x,y],aE7 env z:=fun z hz=>by
  rcases List.mem_cons.mp hz with rfl | hz
  ·exact F.can i _ hx.1 hx.2
  ·rw [List.mem_singleton.mp hz];exact F.can j _ hy.1 hy.2
 refine wpAny_For (hit _ _ fun a v aa aj ax rd hv=>?_) hs
 have aD:=F.go aj ax
 refine hid fun Gz zz=>?_
 obtain ⟨hma,oa,ea,ca⟩:=bY9 rd
 obtain ⟨a',ps,e,dy,iy,zy⟩:=aM3 rd
 refine zz ?_;clear zz Gz
 cases e
 obtain ⟨ep,da⟩:=dy.dictAt
 have hlen:ps.length=kvs.length:=iy.length
 refine wpAny_pyIter_items hv da ?_
 generalize hIe:aa.heap.objs.size=I
 have hne:a≠I:=hIe ▸ Nat.ne_of_lt (Heap.lt_size ea)
 have hI:aa.heap.get? I=none:=by
  cases q:aa.heap.get? I with
  | none=>rfl
  | some o=>exact absurd (Heap.lt_size q) (hIe ▸ Nat.lt_irrefl _)
 generalize cR:({ aa with heap:=aa.heap.push { cls:=.type "dict_itemiterator",data:=.fields #[.none,.bool false,.ref a,.int 0 0,.int ps.length 0,.int ep 0,.none,.none] } }:Shared)=ai
 have al:Go C aa ai:=by rw [← cR];exact .push _
 have aF:aa.toks≤ai.toks:=by rw [← cR];exact Nat.le_refl _
 let St:Nat→Heap→Prop:=fun i h=>(∃ ok ov,IsItemIter h I a i ps.length ep ok ov)∧h.DictAt (aC0 C.prog C.w) a ps ep
 have stCls:∀ i h,St i h→∃ o,h.get? I=some o∧aL8 o:=fun i h ⟨⟨ok,ov,e⟩,_⟩=>⟨_,e,by simp,by simp⟩
 have stFrame:∀ i h h',St i h→(∀ b∈[I,a],∀ o,h.get? b=some o→h'.get? b=some o)→St i h':=fun i h h' st hk=>by
  obtain ⟨⟨ok,ov,he⟩,hm⟩:=st
  exact ⟨⟨ok,ov,hk I (by simp) _ he⟩,hm.at' fun o e=>hk a (by simp) o e⟩
 have st:St 0 ai.heap:=by
  rw [← cR]
  exact ⟨⟨.none,.none,by rw [← hIe];exact Heap.get?_push_size _ rfl⟩,da.push _⟩
 have bf:=aD.addMu hI al aF (stCls _ _ st)
 have hWI:W I=false:=by
  cases q:W I with
  | false=>rfl
  | true =>
   obtain ⟨_,o',e',_⟩:=aD.mu I (aD.wMu I q)
   rw [hI] at e';exact nos e'
 have h0:=aD.fresh0 hI
 have fpPT:∀ b∈[I,a],b≠C.PT:=fun b hb=>by
  rcases List.mem_cons.mp hb with rfl | hb
  ·obtain ⟨oP,hP,_⟩:=C.tabNone _ aD.ok.tab
   intro z;rw [z,hP] at hI;exact nos hI.symm
  ·rw [List.mem_singleton.mp hb];exact cR0 aD.ok.tab ea ca
 have fpW:∀ {W' Mu':Addr→Bool} {s':Shared},Stp C W Mu aa W' Mu' s'→W' I=false→∀ b∈[I,a],W' b=false:=fun {W' Mu' s'} q hi b hb=>by
  rcases List.mem_cons.mp hb with rfl | hb
  ·exact hi
  ·rw [List.mem_singleton.mp hb]
   refine q.off ?_ ((ea) ▸ rfl)
   cases z:W a with
   | false=>rfl
   | true=>rw [aD.wMu a z] at hma;cases hma
 have hdl:(aN0 kvs).length=kvs.length:=by simp [aN0]
 refine eQ0 (fun n s'=>∃ i' ao W' Mu' ad',i'≤kvs.length∧n=kvs.length+1 - i'∧aH0 (fun d ρ=>(cK0 i j d).bind fun bs=>bodyRun (aD2 bs ρ)) ((aN0 kvs).drop i') ao=some o∧Frm C lev Γ ns A env ah ac ao W' Mu' ad' s' ∧
   Stp C W Mu aa W' Mu' s'∧St i' s'.heap∧Mu' I=true∧W' I=false) ?_ (kvs.length+1) ⟨0,ρ,W,bL1 Mu I,ad,Nat.zero_le _,rfl,hr,bf,?_,st,aP2 _ _,hWI⟩
 ·intro n s' hI' E' K0 KB K5 hn hs' hnx hbk hrt hK
  refine hid fun Gz zz=>?_
  obtain ⟨i',ao,W',Mu',ad',hi,rfl,hgo,F',q,st',hMI,hWI'⟩:=hI'
  have stp0:=aj.stp (W:=W) (Mu:=Mu) F.ok.tab ax
  obtain ⟨⟨ok,ov,he⟩,hm⟩:=id st'
  refine zz ?_;clear zz Gz
  by_cases hlt:i' < kvs.length
  ·obtain ⟨⟨kk,vv⟩,hx'⟩:∃ p,ps[i']?=some p:=⟨ps[i'],by simp [hlen,hlt]⟩
   obtain ⟨num,nt,rfl,hkv⟩:=iy.item hx'
   refine wpAny_with_toks (n:=s'.toks) (Nat.le_refl _) (wpAny_pyNext_items_item he hm hx' fun key av hkey ho hT hsz a8=>?_)
   intro be
   have hTI:s'.heap.objs.size≠I:=Nat.ne_of_gt (Heap.lt_size he)
   have hTn:s'.heap.get? s'.heap.objs.size=none:=by
    cases q:s'.heap.get? s'.heap.objs.size with
    | none=>rfl
    | some o=>exact absurd (Heap.lt_size q) (Nat.lt_irrefl _)
   refine hs' _ _ (wpAny_letOwnedTupleGo_items ho fun aL eD cS=>?_)
   have cf:∀ b o,b≠I→s'.heap.get? b=some o→aL.get? b=some o:=fun b o hb e=>cS.extBut b o hb (a8 b o hb e)
   have eE:aL.get? s'.heap.objs.size=some { cls:=.type "tuple",data:=.seq #[key,.int num nt] }:=cS.extBut _ _ hTI hT
   have cT:St (i'+1) aL:=⟨⟨_,_,eD⟩,hm.at' fun o e=>cf a o hne e⟩
   have hdrop:(aN0 kvs).drop i'=.tup [aC9 kk,.int num]::(aN0 kvs).drop (i'+1):=by
    have hlt':i' < (aN0 kvs).length:=by rw [hdl];exact hlt
    rw [List.drop_eq_getElem_cons hlt']
    congr 1
    have:(aN0 kvs)[i']?=some (.tup [aC9 kk,.int num]):=by simp [aN0,hkv]
    rw [List.getElem?_eq_getElem hlt'] at this
    exact Option.some.inj this
   (rw [hdrop] at hgo;dsimp only [aH0] at hgo)
   refine hid fun Gz zz=>?_
   obtain ⟨o',ho',hgo⟩:=Option.bind_eq_some_iff.mp hgo
   obtain ⟨bs,hbs,hrun⟩:=Option.bind_eq_some_iff.mp ho'
   refine zz ?_;clear zz Gz
   have aR:=F'.aside (tk:=s'.toks) hMI hWI' h0 cf (stCls _ _ cT) be
   have bQ:Stp C W Mu aa W' Mu' { s' with heap:=aL,toks:=s'.toks }:=q.at hI cf be
   have rdT:Rd C (Fz aL Mu') (.ref s'.heap.objs.size) (.tup [aC9 kk,.int num]):=by
    refine .tup (vs:=[key,.int num nt]) (n:=0) ?_ (.cons (dY4 hkey) (.cons (.int _ _) .nil))
    dsimp only [Fz]
    rw [if_neg fun z=>?_]
    ·exact eE
    ·obtain ⟨_,o',e',_⟩:=F'.mu _ z
     rw [hTn] at e';exact nos e'
   refine tks env _ Mu' _ _ bs aR.envOk aR.frame aR.mu (fun z hz=>hcan z hz) rdT hbs _ _ fun a7 cD pt hbd hnm dM=>?_
   obtain ⟨bo,bE⟩:=aR.bound (fun z hz=>hcan z hz) pt hbd hnm dM
   have bv:St (i'+1) a7:=stFrame _ _ _ cT fun b hb o e=>bE.keep b o (fpW q hWI' b hb) e (.inr (fpPT b hb))
   refine hbody _ _ _ _ _ o' _ _ bo hrun ?_
   have stNext:∀ {W'' Mu'':Addr→Bool} {s'':Shared},Stp C W' Mu' { s' with heap:=a7,toks:=cD } W'' Mu'' s''→St (i'+1) s''.heap∧Mu'' I=true∧W'' I=false:=fun {W'' Mu'' s''} p=>by
    have hasI:(a7.get? I).isSome=true:=by
     refine hid fun Gz zz=>?_
     obtain ⟨_,o',e',_⟩:=bo.mu I hMI
     refine zz ?_;clear zz Gz
     have e'':a7.get? I=some o':=e'
     rw [e''];rfl
    exact ⟨stFrame _ _ _ bv fun b hb o e=>p.keep b o (fpW q hWI' b hb) e (.inr (fpPT b hb)),p.resv I hMI hWI' hasI,p.off hWI' hasI⟩
   cases o' with
   | next bF =>
    intro W'' Mu'' ad'' s'' F'' p
    obtain ⟨a,b,c⟩:=stNext p
    exact hnx _ (hK _ _ (cO8 hlt) ⟨i'+1,bF,W'',Mu'',ad'',hlt,rfl,hgo,F'',(bQ.trans bE).trans p,a,b,c⟩)
   | brk bF =>
    cases hgo
    intro W'' Mu'' ad'' s'' F'' p
    obtain ⟨a,b,c⟩:=stNext p
    have Fd:=F''.drop (tk:=s''.toks) (h':=s''.heap) b c h0 (fun _ _ _ e=>e) (Nat.le_refl _)
    exact hbk _ (K _ _ _ _ Fd (stp0.trans (((bQ.trans bE).trans p).sub hI)))
   | ret d' =>
    cases hgo
    exact fun v s' a b c=>hrt _ _ (K v s' a b c)
  ·have hie:i'=kvs.length:=cO7 hi hlt
   subst hie
   refine wpAny_with_toks (n:=s'.toks) (Nat.le_refl _) (wpAny_pyNext_items_end F.room.handled he hm (by simp [hlen]) fun h' hk=>?_)
   intro htk
   rw [← hdl,List.drop_length] at hgo
   obtain rfl:=Option.some.inj hgo
   have hk':∀ b o,b≠I→s'.heap.get? b=some o→h'.get? b=some o:=fun b o hb e=>hk b o hb e
   have Fd:=F'.drop (tk:=s'.toks) hMI hWI' h0 hk' htk
   exact hn _ (K _ _ _ _ Fd (stp0.trans ((q.at hI hk' htk).sub hI)))
 ·have q:=al.stp (W:=W) (Mu:=Mu) aD.ok.tab aF
  exact ⟨q.keep,q.new,fun b h=>by
   rcases aD0 h with z | z
   ·exact .inl z
   ·exact .inr (z ▸ hI),fun b h _ _=>aH3 h,q.has,q.tk⟩
end
end Mine
end
section
open PySem PySem.W PyProof.Rows PySem.Calls PySem.Spec
set_option autoImplicit false
set_option maxRecDepth 4000
namespace Mine
section
variable {C:Cfg} {lev:Nat} {Γ:List Fn} {ns fs:List Str} {A:Around} {env:Env} {ah:Shared} {ac:Addr→Bool} {ρ:Ro} {W Mu:Addr→Bool} {ad:Nat→Addr} {s s':Shared}
theorem bN2 (S:SOk C s) (g:Go C s s') {a:Nat} (h:s'.heap.objs.size≤a):s.heap.get? a=none:=by
 cases e:s.heap.get? a with
 | none=>rfl
 | some o =>
  exfalso
  by_cases q:a=C.PT
  ·obtain ⟨o',e',_⟩:=C.tabNone _ (S.go g).tab
   rw [← q] at e'
   exact absurd (Heap.lt_size e') (Nat.not_lt.mpr h)
  ·exact absurd (Heap.lt_size (g.ext a o e (.inr q))) (Nat.not_lt.mpr h)
theorem cM1 {h:Heap} {o:Obj}:VLe (Fz h Mu) (Fz (h.push o) (bL1 Mu h.objs.size)):=fun b ob q _=>by
 dsimp only [Fz] at q ⊢
 by_cases m:Mu b=true
 ·rw [if_pos m] at q;exact nos q
 ·rw [if_neg m] at q
  rw [if_neg fun z=>by
   rcases aD0 z with z | z
   ·exact m z
   ·rw [z] at q;exact absurd (Heap.lt_size q) (Nat.lt_irrefl _)]
  exact Heap.get?_push_of_some _ q
theorem cB0 (F:Frm C lev Γ ns A env ah ac ρ W Mu ad s) {i:Nat} {x:Str} {vs:List Value} {n:Nat} {ds:List D} {aa:Shared} {Q:Unit→Shared→Prop} {E:Value→Shared→Prop} (hx:ns[i]?=some x) (hv:bB6 env.scope x=true)
  (g:Go C s aa) (t:s.toks≤aa.toks) (r:RdL C (Fz aa.heap Mu) vs ds)
  (k:∀ W' Mu' ad' s',Frm C lev Γ ns A env ah ac (aA2 ρ i (.own (.lst ds))) W' Mu' ad' s'→Stp C W Mu s W' Mu' s'→Q () s'):wpAny (model C.prog C.w) A (storeName env x (.ref aa.heap.objs.size)) Q E { aa with heap:=aa.heap.push (aB2 vs n) }:=by
 have gp:Go C aa { aa with heap:=aa.heap.push (aB2 vs n) }:=.push _
 exact aW9 F hx hv (g.trans gp) t (bN2 F.ok g (Nat.le_refl _)) (.lst (Heap.get?_push_size _ rfl) (r.mono cM1)) k
theorem dO4 {G:aU7} {vs:List Value} {ds:List D} (k:Nat) {v:Value} {d:D} (r:RdL C G vs ds) (h:Rd C G v d):RdL C G (vs.set k v) (ds.set k d) :=
 r.ind (P:=fun vs ds=>∀ k,RdL C G (vs.set k v) (ds.set k d)) (fun _=>.nil) (fun h' r q k=>by
  cases k with
  | zero=>exact .cons h r
  | succ k=>exact .cons h' (q k)) k
theorem cO3 {G:aU7} {vs:List Value} {ds:List D} (k:Nat) (r:RdL C G vs ds):RdL C G (vs.eraseIdx k) (ds.eraseIdx k) :=
 r.ind (P:=fun vs ds=>∀ k,RdL C G (vs.eraseIdx k) (ds.eraseIdx k)) (fun _=>.nil) (fun h' r q k=>by
  cases k with
  | zero=>exact r
  | succ k=>exact .cons h' (q k)) k
theorem dP4 {k:Key} {i:Int} {t:Tok} {ps:List (Key × Value)} {kvs:List (Key × Int)} (r:IntVals ps kvs):IntVals (ps.map fun kv=>if kv.1=k then (kv.1,.int i t) else kv) (kvs.map fun p=>if p.1=k then (p.1,i) else p):=by
 induction r with
 | nil=>exact .nil
 | cons r ih =>
  rename_i k' _ _ _ _
  rw [List.map_cons,List.map_cons]
  by_cases q:k'=k
  ·rw [if_pos q,if_pos q];exact .cons ih
  ·rw [if_neg q,if_neg q];exact .cons ih
theorem dP5 {k:Key} {i:Int} {t:Tok} {ps:List (Key × Value)} {kvs:List (Key × Int)} (r:IntVals ps kvs):IntVals (ps++[(k,.int i t)]) (kvs++[(k,i)]):=by
 induction r with
 | nil=>exact .cons .nil
 | cons r ih=>exact .cons ih
theorem cP0 {k:Key} {i:Int} {t:Tok} {ps:List (Key × Value)} {kvs:List (Key × Int)} (h:IntVals ps kvs):IntVals (stored ps k (.int i t)) (bU9 kvs k i):=by
 have hk:=h.keys
 have e:(ps.any fun kv=>decide (kv.1=k))=kvs.any fun p=>decide (p.1=k):=by
  have h1:(ps.any fun kv=>decide (kv.1=k))=(ps.map (·.1)).any fun x=>decide (x=k):=by rw [List.any_map];rfl
  have h2:(kvs.any fun kv=>decide (kv.1=k))=(kvs.map (·.1)).any fun x=>decide (x=k):=by rw [List.any_map];rfl
  rw [h1,h2,hk]
 dsimp only [stored,bU9]
 rw [e]
 split
 ·exact dP4 h
 ·exact dP5 h
theorem cC3 (F:Frm C lev Γ ns A env ah ac ρ W Mu ad s) {i:Nat} {x:Str} {p gp:Pos} {ds:List D} (hx:aB6 ns env.scope i x=true) (ho:ρ.lookup i=some (.own (.ent ds))) :
  ∃ v vs n,HasVar env s.heap x v∧OwnIs C s.heap Mu v (ad i) (.ent ds)∧s.heap.get? (ad i)=some (aB2 vs n)∧RdL C (Fz s.heap Mu) vs ds ∧
   (∀ h',(∀ b o,b≠ad i→s.heap.get? b=some o→h'.get? b=some o)→∀ vs' n' ds',h'.get? (ad i)=some (aB2 vs' n')→RdL C (Fz h' Mu) vs' ds'→OwnIs C h' Mu v (ad i) (.ent ds')) ∧
   ∀ (Q E:Value→Shared→Prop),(∀ aa,Go C s aa→s.toks≤aa.toks→Q (.ref (ad i)) aa)→wpAny (model C.prog C.w) A (eval (.Attribute (.Name x p) "useragents" gp) env) Q E s:=by
 obtain ⟨v,hv,ov,ld⟩:=aP7 F hx ho
 have hm':Mu (ad i)=true:=F.wMu _ (F.own i _ ho).1
 have ov':=ov
 obtain ⟨a,dx,es,n,vs,k,rfl,h1,h2,h3,h5,h4,r⟩:=cP9 ov
 refine ⟨_,vs,k,hv,ov',h4,r,fun h' kp vs' n' ds' e' r'=>?_,fun Q E q=>?_⟩
 ·have view:VLe (Fz s.heap Mu) (Fz h' Mu):=aL9 fun b o e=>kp b o (fun z=>by rw [z,hm'] at e;cases e)
  exact .ent (view _ _ h1 Value.noConfusion) (view _ _ h2 Value.noConfusion) h3 h5 e' r'
 ·refine Attribute_name (ld s (.refl _) (Nat.le_refl _) _ _ ?_)
  obtain ⟨u1,u2,u3⟩:=C.ua
  have I:InstAt s.heap a (instObj C.EC dx) C.EC (some (dictOf es n)):=⟨VLe.heap _ _ h1 Value.noConfusion,rfl,rfl,VLe.heap _ _ h2 Value.noConfusion⟩
  exact get_value F.ok.top.kin I (plainGet_of u1).1 (findObj_own u2 u3 rfl h3) rfl (q _ .tok (Nat.le_succ _))
theorem dA8 {a k:D}:Al (eH0 a k) fun q=>∃ ds n dy,a=.lst ds∧k=.int n∧(0≤n∧n < ds.length∧ds.length≤lim)∧ds[n.toNat]?=some dy∧q=(.lst (ds.eraseIdx n.toNat),dy):=by
 cases a with
 | lst ds=>cases k with
  | int n=>exact Al.ite fun hz=>Al.map fun dy hy=>⟨ds,n,dy,rfl,rfl,hz,hy,rfl⟩
  | _=>exact Al.none
 | _=>exact Al.none
theorem dE8 {a e:D}:Al (eD4 a e) fun d=>∃ ds es,a=.lst ds∧(e=.lst es∨e=.tup es)∧d=.lst (ds++es)∧ds.length≤lim∧es.length≤lim:=by
 cases a with
 | lst ds=>cases e with
  | lst es=>exact Al.ite fun hz=>Al.some ⟨ds,es,rfl,.inl rfl,rfl,hz⟩
  | tup es=>exact Al.ite fun hz=>Al.some ⟨ds,es,rfl,.inr rfl,rfl,hz⟩
  | _=>exact Al.none
 | _=>exact Al.none
theorem eC9 {v:Value} {m:Addr} {do_ dk:D} {w:Value} {Mv:Addr→Bool} (ov:OwnIs C s.heap Mu v m do_) (rk:Rd C (Fz s.heap Mv) w dk):Al (bJ8 do_ dk) fun old=>dE1 old=true→∀ {Q E:Value→Shared→Prop},
  (∀ u s',Go C s s'→s.toks≤s'.toks→Rd C (Fz s'.heap noMu) u old→Q u s')→wpAny (model C.prog C.w) A (getItem v w) Q E s:=by
 cases ov with
 | lst e r=>cases dk with
  | int n =>
    refine Al.ite fun hz old hd hi Q E k=>?_
    obtain ⟨t,rfl⟩:=aM2 rk
    obtain ⟨x,hx,rx⟩:=r.get hd
    exact wpAny_getItem_list (aI6 e) hz.1 (Int.lt_trans hz.2 (by decide)) (by simpa using hx) (k _ _ (.refl _) (Nat.le_refl _) (rx.imm hi))
  | _=>exact Al.none
 | dct rd =>
  refine Al.bind fun key hk=>Al.map fun i hi' hi Q E k=>?_
  obtain ⟨y,qs,e,dy,iy,zy⟩:=aM3 rd
  cases e
  obtain ⟨t,ht⟩:=iy.get hi'
  exact wpAny_getItem_of (knd:=aC0 C.prog C.w) (aZ8 hk rk) dy.mapOf ht (k _ _ .tok (Nat.le_succ _) (.int _ _))
 | barr=>exact Al.none
 | ent=>exact Al.none
theorem dJ2 (F:Frm C lev Γ ns A env ah ac ρ W Mu ad s) {i:Nat} {x:Str} {v:Value} {do_ dk dv:D} {w u:Value} {Mv:Addr→Bool} (hx:ns[i]?=some x) (hl:ρ.lookup i=some (.own do_)) (hv:HasVar env s.heap x v) (ov:OwnIs C s.heap Mu v (ad i) do_)
  (rk:Rd C (Fz s.heap Mv) w dk) (rv:Rd C (Fz s.heap Mu) u dv):Al (aZ2 do_ dk dv) fun d=>∀ {Q:Unit→Shared→Prop} {E:Value→Shared→Prop},
  (∀ W' Mu' ad' s',Frm C lev Γ ns A env ah ac (aA2 ρ i (.own d)) W' Mu' ad' s'→Stp C W Mu s W' Mu' s'→Q () s')→wpAny (model C.prog C.w) A (setItem v w u) Q E s:=by
 have hm':Mu (ad i)=true:=F.wMu _ (F.own i _ hl).1
 cases ov with
 | lst e r=>cases dk with
  | int n =>
    refine Al.ite fun hz=>Al.some fun {Q E} k=>?_
    refine hid fun Gz zz=>?_
    obtain ⟨t,rfl⟩:=aM2 rk
    refine zz ?_;clear zz Gz
    refine cG3 e hz.1 (Int.lt_trans hz.2.2 (by decide)) (r.length ▸ hz.2.1) fun h' n' k' e'=>?_
    obtain ⟨F',st⟩:=F.turn (tk:=s.toks) hx hl hv k' (.lst e' ((dO4 _ r rv).mono (aL9 fun b o e=>k' b o (fun z=>by rw [z,hm'] at e;cases e)))) (Nat.le_refl _)
    exact k _ _ _ _ F' st
  | _=>exact Al.none
 | dct rd=>cases dv with
  | int n =>
    refine Al.ite fun hz=>Al.map fun key hk {Q E} k=>?_
    refine hid fun Gz zz=>?_
    obtain ⟨y,qs,e,dy,iy,zy⟩:=aM3 rd
    refine zz ?_;clear zz Gz
    cases e
    obtain ⟨t,rfl⟩:=aM2 rv
    refine wpAny_setItem_pairs (knd:=aC0 C.prog C.w) (hsz:=iy.length ▸ aA9 hz (by decide)) (aZ8 hk rk) dy fun h' hd' hs'=>?_
    obtain ⟨o,ho,hdo⟩:=Heap.dictOf_iff.mp hd'
    obtain ⟨F',st⟩:=F.turn (tk:=s.toks+1) hx hl hv hs'.extBut (.dct (.dct (o:=o) (by rw [aO2];exact ho) hdo (cP0 iy) zy)) (Nat.le_succ _)
    exact k _ _ _ _ F' st
  | _=>exact Al.none
 | barr e=>cases dk with
  | int n=>cases dv with
   | int m =>
     refine Al.ite fun hz=>Al.some fun {Q E} k=>?_
     obtain ⟨t,rfl⟩:=aM2 rk
     obtain ⟨t',rfl⟩:=aM2 rv
     refine cG4 e hz.1 hz.2.1 hz.2.2.1 hz.2.2.2.1 hz.2.2.2.2 fun h' tk k' ht e'=>?_
     obtain ⟨F',st⟩:=F.turn (tk:=tk) hx hl hv k' (.barr e') ht
     exact k _ _ _ _ F' st
   | _=>exact Al.none
  | _=>exact Al.none
 | ent=>exact Al.none
noncomputable def Ex (C:Cfg) (lev:Nat) (Γ:List Fn) (ns:List Str) (A:Around) (env:Env) (ah:Shared) (ac W Mu:Addr→Bool) (s:Shared) (t:Sem Flow) (o:Out):Prop :=
 ∀ (Q:Flow→Shared→Prop) (E:Value→Shared→Prop),Done C lev Γ ns A env ah ac W Mu s o Q→wpAny (model C.prog C.w) A t Q E s
noncomputable def Xk (C:Cfg) (lev:Nat) (Γ:List Fn) (ns:List Str) (i:IS) (sc:Scope) (st:Stmt):Prop :=
 ∀ {A:Around} {env:Env} {ah:Shared} {ac:Addr→Bool} {ρ:Ro} {W Mu:Addr→Bool} {ad:Nat→Addr} {s:Shared},Frm C lev Γ ns A env ah ac ρ W Mu ad s→env.scope=sc→Al (run Γ i ρ) (Ex C lev Γ ns A env ah ac W Mu s (exec st env))
noncomputable def Xks (C:Cfg) (lev:Nat) (Γ:List Fn) (ns:List Str) (is:ISs) (sc:Scope) (l:List Stmt):Prop :=
 ∀ {A:Around} {env:Env} {ah:Shared} {ac:Addr→Bool} {ρ:Ro} {W Mu:Addr→Bool} {ad:Nat→Addr} {s:Shared},Frm C lev Γ ns A env ah ac ρ W Mu ad s→env.scope=sc→Al (aD7 Γ is ρ) (Ex C lev Γ ns A env ah ac W Mu s (execs l env))
theorem vAt {sc:Scope} {i:Nat} {x:Str} (hs:env.scope=sc) (h:aB6 ns sc i x=true):aB6 ns env.scope i x=true:=hs ▸ h
theorem aK9 {sc:Scope} {i:Nat} {x:Str} (hs:env.scope=sc) (h:aB6 ns sc i x=true):ns[i]?=some x∧bB6 env.scope x=true:=⟨(bI7 h).1,hs ▸ (bI7 h).2.1⟩
theorem Ex.expr {x:Expr} {p:Pos} {Q:Flow→Shared→Prop} {E:Value→Shared→Prop} (F:Frm C lev Γ ns A env ah ac ρ W Mu ad s) (h:wpAny (model C.prog C.w) A (eval x env) (fun _=>Q .next) E s) (hw:swapsWith x none p.line env=pure false):wpAny (model C.prog C.w) A (exec (.Expr x p) env) Q E s :=
 wpAny_Expr_any h (by dsimp only [interactive];rw [F.envOk.kind];rfl) hw
theorem dQ0 (F:Frm C lev Γ ns A env ah ac ρ W Mu ad s) {i:Nat} {d:D} (hl:ρ.lookup i=some (.own d)):Mu (ad i)=true:=F.wMu _ (F.own i _ hl).1
theorem aZ4 (F:Frm C lev Γ ns A env ah ac ρ W Mu ad s) {i:Nat} {x:Str} {d:D} {v:Value} {us:List Value} {es:List D} {h':Heap} {n tk:Nat} (hx:ns[i]?=some x) (hl:ρ.lookup i=some (.own d)) (hv:HasVar env s.heap x v) (hv':v=.ref (ad i))
  (k:∀ b o,b≠ad i→s.heap.get? b=some o→h'.get? b=some o) (e:h'.get? (ad i)=some (aB2 us n)) (r:RdL C (Fz s.heap Mu) us es) (t:s.toks≤tk) {Q:Flow→Shared→Prop}
  (K:Done C lev Γ ns A env ah ac W Mu s (.next (aA2 ρ i (.own (.lst es)))) Q):Q .next { s with heap:=h',toks:=tk }:=by
 subst hv'
 obtain ⟨F',st⟩:=F.turn (tk:=tk) hx hl hv k (.lst e (r.mono (aL9 fun b o e=>k b o (fun z=>by rw [z,dQ0 F hl] at e;cases e)))) t
 exact K _ _ _ _ F' st
section
variable {sc:Scope} {e e1 e2:IE} {x y:Str} {i j:Nat} {v1 v2 v3:Expr} {p p1 p2 p3 p4 p5 q:Pos} {n:Nat}
theorem dW3 (hx:aB6 ns sc i x=true) (hp:bM3 sc x v1=true) (h:Vk C lev Γ ns e sc v1):Xk C lev Γ ns (.asg i e) sc (.Assign [.Name x p] v1 q):=fun {A env ah ac ρ W Mu ad s} F hs =>
 Al.map fun _ e1 Q E K=>wpAny_Assign_Name ((h.f F.cx hs e1).toks _ _ fun v aa aj ax r=>aR8 (F.go aj ax) (aK9 hs hx).1 (aK9 hs hx).2 r fun ai bf st=>K _ _ _ _ bf ((aj.stp F.ok.tab ax).trans st)) (cE9 F.envOk (hs ▸ hp))
theorem eH7 {es:IEs} {vs:List Expr} (hx:aB6 ns sc i x=true) (h:Vks C lev Γ ns sc es vs):Xk C lev Γ ns (.own i es) sc (.Assign [.Name x p] (.List vs q) p1):=fun {A env ah ac ρ W Mu ad s} F hs =>
 Al.bind fun ds e1=>Al.ite fun hz=>Al.some fun Q E K=>wpAny_Assign_Name (wpAny_List_spliced (bK2 h (tr:=false) F.cx hs _ e1 _ _ fun vs aa aj ax r=>⟨r.length ▸ aA9 hz (by decide),by
  rw [aH7] at r
  exact cB0 F (aK9 hs hx).1 (aK9 hs hx).2 aj ax r fun W' Mu' ad' s' F' st=>K _ _ _ _ F' st⟩)) rfl
theorem cX7 {es:IEs} {vs:List Expr} (hx:aB6 ns sc i x=true) (h:Vks C lev Γ ns sc es vs) (h2:Vk C lev Γ ns e sc v1):Xk C lev Γ ns (.ownMul i es e) sc (.Assign [.Name x p] (.BinOp (.List vs q) .Mult v1 p2) p1):=by
 intro A env ah ac ρ W Mu ad s F hs
 refine Al.bind fun ds e1=>Al.bind fun dn e2=>Al.int fun n en=>Al.ite fun hz=>Al.some fun Q E K=>wpAny_Assign_Name (wpAny_BinOp (wpAny_List_spliced (bK2 h (tr:=false) F.cx hs _ e1 _ _ fun vs aa aj ax r=>⟨r.length ▸ aA9 hz.2.2.2 (by decide),?_⟩))) rfl
 subst en
 have gp:Go C aa { aa with heap:=aa.heap.push (aB2 vs 0) }:=.push _
 have aD:=F.go (aj.trans gp) ax
 have el:(aa.heap.push (aB2 vs 0)).get? aa.heap.objs.size=some (aB2 vs 0):=Heap.get?_push_size _ rfl
 refine (h2.f aD.cx hs e2).toks _ _ fun u ai al aF ru=>?_
 rw [aH7] at r
 obtain ⟨tk,rfl⟩:=aM2 ru
 have hl:=r.length
 refine cR1 (al.ext _ _ el (.inl Value.noConfusion)) (Int.le_trans (by decide) hz.1) (Int.lt_of_le_of_lt hz.2.1 (by decide)) (by rw [hl];exact aA9 hz.2.2.1 (by decide)) ?_
 exact cB0 F (aK9 hs hx).1 (aK9 hs hx).2 ((aj.trans gp).trans al) (aA9 ax aF) (aV6 ((r.go gp).go al) _) fun W' Mu' ad' s' F' st=>K _ _ _ _ F' st
theorem eI0 {op:BOp} (hx:aB6 ns sc i x=true) (h:Vk C lev Γ ns e sc v1):Xk C lev Γ ns (.aug i op e) sc (.AugAssign (.Name x p) (bO4 op) v1 q):=by
 intro A env ah ac ρ W Mu ad s F hs
 refine Al.bind fun da e1=>Al.bind fun db e2=>Al.map fun d hd Q E K=>?_
 rcases cT5 e1 with hl | ⟨_,ht⟩
 ·obtain ⟨v,hv,rv⟩:=F.vars i _ _ (aK9 hs hx).1 hl (aK9 hs hx).2
  exact wpAny_AugAssign_Name (bC4 F.cx hv (bI7 hx).2.2.2 ((h.f F.cx hs e2).toks _ _ fun u aa aj ax r=>dJ9 hd (rv.go aj) r fun w ai al _ aF rw' hi =>
   aR8 ((F.go aj ax).go al aF) (aK9 hs hx).1 (aK9 hs hx).2 (rw'.imm hi) fun ar aR st=>K _ _ _ _ aR (((aj.trans al).stp F.ok.tab (aA9 ax aF)).trans st)))
 ·exact noB ht
theorem cD6 {a b:D}:Al (eF7 a b) fun d=>∃ ds,a=.lst ds∧ds.length≤lim∧d=.lst (ds++[b]):=by
 cases a with
 | lst ds=>exact Al.ite fun hz=>Al.some ⟨ds,rfl,hz,rfl⟩
 | _=>exact Al.none
theorem eI1 (hx:aB6 ns sc i x=true) (hp:(p1.endLine == p2.line)=true) (hst:aA8 v1=true) (h:Vk C lev Γ ns e sc v1):Xk C lev Γ ns (.app i e) sc (.Expr (.Call (.Attribute (.Name x p) "append" p1) [v1] [] p2) q):=by
 intro A env ah ac ρ W Mu ad s F hs
 refine Al.bind fun do_ ho=>Al.bind fun de he=>Al.map fun d hd Q E K=>?_
 obtain ⟨ds,rfl,hz,rfl⟩:=cD6 _ hd
 have hl:=aO1 ho
 obtain ⟨v,hv,ov,ld⟩:=aP7 F (vAt hs hx) hl
 obtain ⟨rfl,vs,n,el,rl⟩:=bE2 ov
 refine Ex.expr F (aT7 (Mw:=Mu) F.cx PySem.F.slot_list_append PySem.F.type_list_append hp hst rfl (fun Q E k=>ld s (.refl _) (Nat.le_refl _) Q E (k s (.refl _) (Nat.le_refl _))) el (fun aa aj aB=>h.f aB hs he) fun u ai al aF bn ru =>
  bE3 bn (rl.length ▸ aA9 hz (by decide)) fun h' n' k' e'=>?_) rfl
 exact aZ4 (F.go al aF) (aK9 hs hx).1 hl (hv.ext F.mu F.frame al.ext) rfl k' e' ((rl.go al).append (.one ru)) (Nat.le_refl _) (K.after (al.stp F.ok.tab aF))
theorem eH6 (h:Vk C lev Γ ns e sc v1):Xk C lev Γ ns (.ret e) sc (.Return (some v1) p):=fun F hs=>Al.map fun _ e1 Q E K =>
 wpAny_Return_some ((h.f F.cx hs e1).toks _ _ fun v aa aj ax r=>K v aa (F.base.trans aj) (aA9 F.tk ax) (r.mono (.mu F.muSub)))
theorem eH9:Xk C lev Γ ns .brk sc (.Break p):=fun F hs=>Al.some fun Q E K=>wpAny_Break (K _ _ _ _ F (.refl _ _ _))
theorem eH8 {t:IT} {a b:ISs} {l1 l2:List Stmt} (ht:Tk C lev Γ ns t sc v1) (ha:Xks C lev Γ ns a sc l1) (hb:Xks C lev Γ ns b sc l2):Xk C lev Γ ns (.ite t a b) sc (.If v1 l1 l2 p):=by
 intro A env ah ac ρ W Mu ad s F hs
 refine Al.bind fun c e1 o ho Q E K=>wpAny_If ((ht F.cx hs _ e1).then F.cx fun aa aj ax aB=>?_)
 have K':=K.after (aj.stp (W:=W) (Mu:=Mu) F.ok.tab ax)
 cases c with
 | true=>exact ha (F.go aj ax) hs _ ho Q E K'
 | false=>exact hb (F.go aj ax) hs _ ho Q E K'
theorem dV8 {fuel:Nat} {t:IT} {body:ISs} {l:List Stmt} (ht:Tk C lev Γ ns t sc v1) (hb:Xks C lev Γ ns body sc l):Xk C lev Γ ns (.whil fuel t body) sc (.While v1 l [] p):=by
 intro A env ah ac ρ W Mu ad s F hs o hr Q E K
 refine wpAny_While (codeAny_whileLoop (fun n s'=>∃ ao W' Mu' ad',aR6 (tst Γ t) (aD7 Γ body) n ao=some o∧Frm C lev Γ ns A env ah ac ao W' Mu' ad' s'∧Stp C W Mu s W' Mu' s') ?_ fuel ⟨ρ,W,Mu,ad,hr,F,.refl _ _ _⟩)
 rintro n s' ⟨ao,W',Mu',ad',hw,F',st⟩
 cases n with
 | zero=>exact nos hw
 | succ n =>
  refine hid fun Gz zz=>?_
  obtain ⟨b,e1,hw⟩:=Option.bind_eq_some_iff.mp (hw:((tst Γ t ao).bind _)=_)
  refine zz ?_;clear zz Gz
  refine (ht F'.cx hs _ e1).then F'.cx fun aa aj ax aB=>?_
  have aD:=F'.go aj ax
  have cg:=st.trans (aj.stp (W:=W') (Mu:=Mu') F'.ok.tab ax)
  cases b with
  | false=>obtain rfl:=Option.some.inj hw;exact wpAny_execs_nil (K _ _ _ _ aD cg)
  | true =>
   obtain ⟨o',ho',hw⟩:=Option.bind_eq_some_iff.mp (hw:((aD7 Γ body ao).bind _)=_)
   refine hb aD hs _ ho' _ _ ?_
   cases o' with
   | next bF=>exact fun W'' Mu'' ad'' s'' F'' q=>⟨n,Nat.lt_succ_self _,bF,W'',Mu'',ad'',hw,F'',cg.trans q⟩
   | brk bF=>cases hw;exact fun W'' Mu'' ad'' s'' F'' q=>K _ _ _ _ F'' (cg.trans q)
   | ret d=>cases hw;exact K
theorem cL7 (hx:aB6 ns sc i x=true):Xk C lev Γ ns (.ownDict i) sc (.Assign [.Name x p] (.Dict [] [] q) p1):=by
 intro A env ah ac ρ W Mu ad s F hs
 refine Al.some fun Q E K=>wpAny_Assign_Name (wpAny_Dict_empty ?_) rfl
 have gp:Go C s { s with heap:=s.heap.push { cls:=.type "dict",data:=.dict #[] } }:=.push _
 have hd:=Heap.DictOf.new (knd:=aC0 C.prog C.w) s.heap
 obtain ⟨o,ho,hdo⟩:=Heap.dictOf_iff.mp hd
 refine aW9 F (aK9 hs hx).1 (aK9 hs hx).2 gp (Nat.le_refl _) (bN2 F.ok (.refl s) (Nat.le_refl _)) (.dct (.dct (o:=o) (ps:=[]) (by rw [aO2];exact ho) hdo .nil ?_)) fun W' Mu' ad' s' F' st=>K _ _ _ _ F' st
 have hlt:sysModules < s.heap.objs.size:=Nat.lt_trans (by decide:(1:Nat) < 3) F.ok.top.g.lt
 exact beq_eq_false_iff_ne.mpr fun z=>by rw [z] at hlt;exact Nat.lt_irrefl _ hlt
theorem cX6 (hx:aB6 ns sc i x=true) (hc:bX0 v2=true) (hk:Vk C lev Γ ns e1 sc v1) (hv:Vk C lev Γ ns e2 sc v2):Xk C lev Γ ns (.setIdx i e1 e2) sc (.Assign [.Subscript (.Name x p) v1 q] v2 p1):=by
 intro A env ah ac ρ W Mu ad s F hs
 refine Al.bind fun do_ ho=>Al.bind fun dv ev=>Al.bind fun dk ek=>Al.map fun d hd Q E K=>?_
 have hl:=aO1 ho
 obtain ⟨v,hvar,ov,ld⟩:=aP7 F (vAt hs hx) hl
 refine wpAny_Assign_Subscript ((hv.f F.cx hs ev).toks _ _ fun u aa aj ax ru=>ld aa aj ax _ _ ((hk (F.go aj ax).cx hs _ ek).toks _ _ fun w ai al aF rw'=>?_)) (bQ0 hc)
 have g:=aj.trans al
 have t:=aA9 ax aF
 exact dJ2 (F.go g t) (aK9 hs hx).1 hl (hvar.ext F.mu F.frame g.ext) (ov.ext g.ext) rw' (ru.go al) _ hd fun W' Mu' ad' s' F' st=>K _ _ _ _ F' ((g.stp F.ok.tab t).trans st)
theorem cY1 {op:BOp} (hx:aB6 ns sc i x=true) (hc:cB1 v1=true) (hk:Vk C lev Γ ns e1 sc v1) (hv:Vk C lev Γ ns e2 sc v2):Xk C lev Γ ns (.augIdx i e1 op e2) sc (.AugAssign (.Subscript (.Name x p) v1 q) (bO4 op) v2 p1):=by
 intro A env ah ac ρ W Mu ad s F hs
 refine Al.bind fun do_ ho=>Al.bind fun dk ek=>Al.bind fun old eo=>Al.ite fun hi=>Al.bind fun dv ev=>Al.bind fun new en=>Al.map fun d hd Q E K=>?_
 have hl:=aO1 ho
 obtain ⟨v,hvar,ov,ld⟩:=aP7 F (vAt hs hx) hl
 refine wpAny_AugAssign_Subscript_any (ld s (.refl _) (Nat.le_refl _) _ _ ((hk F.cx hs _ ek).toks _ _ fun w aa aj ax rw'=>?_)) (fun a b c=>by cases v1<;>first | rfl | cases hc)
 have aD:=F.go aj ax
 refine eC9 (ov.ext aj.ext) rw' _ eo hi fun od ai al aF ro=>(hv.f (aD.go al aF).cx hs ev).toks _ _ fun u ar aE bP ru=>dJ9 en (ro.go aE) ru fun nw aU bK _ dG rn hin=>?_
 have ga:=((aj.trans al).trans aE).trans bK
 have ta:=aA9 (aA9 (aA9 ax aF) bP) dG
 exact dJ2 (F.go ga ta) (aK9 hs hx).1 hl (hvar.ext F.mu F.frame ga.ext) (ov.ext ga.ext) (rw'.go ((al.trans aE).trans bK)) (rn.imm hin) _ hd fun W' Mu' ad' s' F' st=>K _ _ _ _ F' ((ga.stp F.ok.tab ta).trans st)
theorem cY2 (hx:aB6 ns sc i x=true) (hy:aB6 ns sc j y=true) (hp:(p1.endLine == p2.line)=true) (hp':(p4.endLine == p5.line)=true) (hst:aA8 v1=true) (h:Vk C lev Γ ns e sc v1) :
  Xk C lev Γ ns (.appPop i j e) sc (.Expr (.Call (.Attribute (.Name x p) "append" p1) [.Call (.Attribute (.Name y p3) "pop" p4) [v1] [] p5] [] p2) q):=by
 intro A env ah ac ρ W Mu ad s F hs
 refine Al.bind fun do_ ho=>Al.bind fun dp hpd=>Al.bind fun dk ek=>Al.ite2 (fun _=>Al.none) fun hij=>Al.bind fun q hq=>Al.map fun d hd Q E K=>?_
 have hl:=aO1 ho
 have hl':=aO1 hpd
 obtain ⟨v,hvar,ov,ld⟩:=aP7 F (vAt hs hx) hl
 obtain ⟨ps,kk,dy,rfl,rfl,hz,hdy,rfl⟩:=dA8 _ hq
 obtain ⟨xs,rfl,hz2,rfl⟩:=cD6 _ hd
 obtain ⟨rfl,vs,n,el,rl⟩:=bE2 ov
 obtain ⟨v',hvar',ov',ld'⟩:=aP7 F (vAt hs hy) hl'
 obtain ⟨rfl,us,m,el',rl'⟩:=bE2 ov'
 refine Ex.expr F (aT2 rfl hp rfl (ld s (.refl _) (Nat.le_refl _) _ _ fun pl=>?_)) rfl
 refine getMethod_builtin ⟨_,el,rfl⟩ PySem.F.plainAttrs_list PySem.F.slot_list_append PySem.F.type_list_append (fun a e=>by cases e;exact ⟨_,el,rfl⟩) ?_
 rw [aA5 (x:=.Call _ _ _ _) rfl,aD9]
 refine callWith_builtin rfl (evalArgs_plain (spliced_cons (aT7 (Mw:=noMu) (d:=.int kk) F.cx PySem.F.slot_list_pop PySem.F.type_list_pop hp' hst rfl (fun Q E k=>ld' s (.refl _) (Nat.le_refl _) Q E (k s (.refl _) (Nat.le_refl _))) el'
  (fun aa aj aB=>h.t aB hs ek) fun u ai al aF bn ru=>?_)))
 obtain ⟨tk,rfl⟩:=aM2 ru
 obtain ⟨w,hyv,ry⟩:=rl'.get hdy
 have hlen:=rl'.length
 refine dZ7 bn hz.1 (dR8 hz.2.1 (cX3 (dA7 hlen))) (dY8 hlen hz.2.2) hyv fun h' n' k' e'=>spliced_nil ?_
 have bf:=F.go al aF
 have cy:VLe (Fz ai.heap Mu) (Fz h' Mu):=aL9 fun b o e=>k' b o (fun z=>by rw [z,dQ0 F hl'] at e;cases e)
 refine hid fun Gz zz=>?_
 obtain ⟨aR,cI⟩:=bf.turn (tk:=ai.toks) (aK9 hs hy).1 hl' (hvar'.ext F.mu F.frame al.ext) k' (.lst e' ((cO3 _ (rl'.go al)).mono cy)) (Nat.le_refl _)
 have dr:(aA2 ρ j (.own (.lst (ps.eraseIdx kk.toNat)))).lookup i=some (.own (.lst xs)):=by rw [aB9,if_neg hij];exact hl
 obtain ⟨w3,hvar3,ov3⟩:=aR.vars i _ _ (aK9 hs hx).1 dr (aK9 hs hx).2
 obtain ⟨e3,vs3,n3,el3,rl3⟩:=bE2 ov3
 refine zz ?_;clear zz Gz
 refine bE3 (vs:=vs3) (n:=n3) el3 (rl3.length ▸ aA9 hz2 (by decide)) fun h'' n'' k'' e''=>?_
 exact aZ4 aR (aK9 hs hx).1 dr hvar3 e3 k'' e'' (rl3.append (.one ((ry.go al).mono cy))) (Nat.le_refl _) (K.after ((al.stp F.ok.tab aF).trans cI))
theorem dW1 (hx:aB6 ns sc i x=true) (hp:(p1.endLine == p2.line)=true) (hst:aA8 v1=true) (h:Vk C lev Γ ns e sc v1):Xk C lev Γ ns (.extd i e) sc (.Expr (.Call (.Attribute (.Name x p) "extend" p1) [v1] [] p2) q):=by
 intro A env ah ac ρ W Mu ad s F hs
 refine Al.bind fun do_ ho=>Al.bind fun de he=>Al.map fun d hd Q E K=>?_
 have hl:=aO1 ho
 obtain ⟨v,hv,ov,ld⟩:=aP7 F (vAt hs hx) hl
 obtain ⟨ds,es,rfl,hde,rfl,hz1,hz2⟩:=dE8 _ hd
 obtain ⟨rfl,vs,n,el,rl⟩:=bE2 ov
 have hlen:=rl.length
 refine Ex.expr F (aT7 (Mw:=Mu) F.cx PySem.F.slot_list_extend PySem.F.type_list_extend hp hst rfl (fun Q E k=>ld s (.refl _) (Nat.le_refl _) Q E (k s (.refl _) (Nat.le_refl _))) el (fun aa aj aB=>h.f aB hs he) fun u ai al aF bn ru=>?_) rfl
 have fin:∀ us,RdL C (Fz ai.heap Mu) us es→∀ h' n',(∀ b o,b≠ad i→ai.heap.get? b=some o→h'.get? b=some o)→h'.get? (ad i)=some (aB2 (vs++us) n')→Q .next { ai with heap:=h' }:=fun us rus h' n' k' e' =>
  aZ4 (F.go al aF) (aK9 hs hx).1 hl (hv.ext F.mu F.frame al.ext) rfl k' e' ((rl.go al).append rus) (Nat.le_refl _) (K.after (al.stp F.ok.tab aF))
 rcases hde with rfl | rfl
 ·obtain ⟨l',us,m,rfl,el',rl'⟩:=aZ3 ru
  exact cQ1 bn el' (hlen ▸ hz1) (rl'.length ▸ hz2) fun h' n' k' e'=>fin us rl' h' n' k' e'
 ·obtain ⟨_,_,_,rfl,et,rt⟩:=ru.inv
  exact cG5 bn (VLe.heap _ _ et Value.noConfusion) (hlen ▸ hz1) (rt.length ▸ hz2) fun h' n' k' e'=>fin _ rt h' n' k' e'
theorem cX8 (hx:aB6 ns sc i x=true) (hg:aC4 sc y "Entry"=true):Xk C lev Γ ns (.entNew i) sc (.Assign [.Name x p] (.Call (.Name y p1) [] [] p2) q):=by
 intro A env ah ac ρ W Mu ad s F hs
 refine Al.some fun Q E K=>?_
 obtain ⟨rfl,hk,hdb⟩:=aN2 (gAt hs hg)
 refine wpAny_Assign_Name (wpAny_Call_NameR (aM4 F.cx hk hdb F.kit.entN.1 (callWith_of (P:=fun h=>C.K.In h) rfl (keeps_K F.kit.entN.2) (evalArgs_empty ⟨F.ok.top.kin,?_⟩)))) rfl
 refine F.kit.ent A s ⟨F.room.handled,by have:=F.room.depth;exact eU5 this,by have:=F.room.units;exact bH6 this⟩ F.ok F.tok _ _ fun a dx m es n k s' g t fa fd fm h1 h2 h3 h4 h5 h6 h7=>?_
 have view:∀ {b o},s.heap.get? b=none→b≠m→s'.heap.get? b=some o→Fz s'.heap (bL1 Mu m) b=some o:=fun {b o} hb hn e=>by
  dsimp only [Fz]
  rw [if_neg fun z=>?_]
  ·exact e
  ·rcases aD0 z with z | z
   ·obtain ⟨_,o',e',_⟩:=F.mu b z;rw [hb] at e';exact nos e'
   ·exact hn z
 exact aW9 F (aK9 hs hx).1 (aK9 hs hx).2 g t fm (.ent (view fa (Ne.symm h1) h3) (view fd (Ne.symm h2) h4) h5 h6 h7 .nil) fun W' Mu' ad' s' F' st=>K _ _ _ _ F' st
theorem cR2 (F:Frm C lev Γ ns A env ah ac ρ W Mu ad s) {a:Addr} (h:s.heap.get? a=none):Mu a=false:=by
 cases e:Mu a with
 | false=>rfl
 | true=>obtain ⟨_,o,q,_⟩:=F.mu a e;rw [h] at q;exact nos q
theorem dW2 {it:It} {ifs:ITs} {xs:List Expr} {sc':Scope} (hx:aB6 ns sc i x=true) (hloc:sc.names.lookup x=some .local) (hline:p.line=p2.line) (hno:(sc'.names.any fun q=>q.1 == x&&(q.2 == .local || q.2 == .cell))=false)
  (h0:ns[j]?=some y) (h1:aY3 sc' sc [y]=true) (h2:aP3 v2) (he:Vk C lev Γ ns e (aE2 sc' sc) v1) (hi:Ik C lev Γ ns it sc v2) (ht:Tks C lev Γ ns (aE2 sc' sc) ifs xs) :
  Xk C lev Γ ns (.asgC i e j it ifs) sc (.Assign [.Name x p] (.ListComp v1 [⟨.Name y p1,v2,xs,0⟩] sc' p2) q):=by
 intro A env ah ac ρ W Mu ad s F hs
 refine Al.map fun d hd Q E K=>?_
 have hsw:swapsWith (.ListComp v1 [⟨.Name y p1,v2,xs,0⟩] sc' p2) (some (.Name x p)) q.line env=pure true:=by
  have hb:env.blockKind=.function:=by dsimp only [Env.blockKind];simp [F.envOk.kind,ScopeKind.isAnnotationScope]
  have hk:env.kindOf x=some .local:=(congrArg (fun s:Scope=>s.names.lookup x) hs).trans hloc
  dsimp only [swapsWith]
  show pure (env.blockKind == .function&&env.kindOf x == some .local&&p.line == p2.line&&!(sc'.names.any fun (n,k)=>n == x&&(k == .local || k == .cell)))=(pure true:Sem Bool)
  rw [hb,hk,hline,hno]
  congr 1
  simp
 rw [exec_Assign_Name_used _ _ _ _ hsw]
 refine wpAny_bind (wpAny_standAt (wpAny_bind (wpAny_bind (wpAny_mono (cC6 (use:=some (assign (.Name x p) env)) h0 h1 h2 he hi (bV4 ht) F.cx hs d hd (fun _ s'=>Q .next s') E ?_) (fun _ s' hq=>wpAny_pure (wpAny_pure hq)) fun _ _ e=>e))))
 intro rs D L s' vs n hdd g t hD hL hDL hmL hTL hget r
 subst hdd
 obtain ⟨mL,hmL⟩:=hmL
 obtain ⟨oL,hoL,tL⟩:=hTL
 show wpAny _ A (assign (.Name x p) env (.ref D)) _ _ _
 have aD:=F.addMu hL g t ⟨oL,hoL,tL⟩
 have rD:Rd C (Fz s'.heap (bL1 Mu L)) (.ref D) (.lst rs):=by
  refine .lst (vs:=vs) (n:=n) ?_ r
  dsimp only [Fz]
  rw [if_neg fun z=>by
   rcases aD0 z with z | z
   ·rw [cR2 F hD] at z;exact noB z
   ·exact hDL z]
  exact hget
 have hWL:W L=false:=by
  cases q:W L with
  | false=>rfl
  | true=>have:=F.wMu L q;rw [cR2 F hL] at this;exact noB this
 refine wpAny_assign_Name (aR8 aD (aK9 hs hx).1 (aK9 hs hx).2 rD fun ai bf bB=>?_)
 have hLs:ai.heap.get? L=some oL:=bB.keep L oL hWL hoL (.inl tL.1)
 refine hid fun Gz zz=>?_
 obtain ⟨oo,es,ep,ho,hd1,hd2⟩:=hmL
 refine zz ?_;clear zz Gz
 rw [hoL] at ho;obtain rfl:=Option.some.inj ho
 refine ⟨mL,⟨oL,es,ep,hLs,hd1,hd2⟩,fun h' hs'=>?_⟩
 have aR:=bf.drop (tk:=ai.toks) (aP2 _ _) hWL (F.fresh0 hL) hs'.extBut (Nat.le_refl _)
 have q:=g.stp (W:=W) (Mu:=Mu) F.ok.tab t
 have eZ:Stp C W Mu s W (bL1 Mu L) s':=⟨q.keep,q.new,fun b h=>by
  rcases aD0 h with z | z
  ·exact .inl z
  ·exact .inr (z ▸ hL),fun b h _ _=>aH3 h,q.has,q.tk⟩
 exact K _ _ _ _ aR (((eZ.trans bB).at hL hs'.extBut (Nat.le_refl _)).sub hL)
theorem bK7 (F:Frm C lev Γ ns A env ah ac ρ W Mu ad s) {d:D} {v:Value} {us:List Value} {ds es:List D} {h':Heap} {n tk:Nat} (hx:ns[i]?=some x) (hl:ρ.lookup i=some (.own d)) (hv:HasVar env s.heap x v) (ov:OwnIs C s.heap Mu v (ad i) (.ent ds))
  (k:∀ b o,b≠ad i→s.heap.get? b=some o→h'.get? b=some o) (e:h'.get? (ad i)=some (aB2 us n)) (r:RdL C (Fz s.heap Mu) us es) (t:s.toks≤tk) {Q:Flow→Shared→Prop}
  (K:Done C lev Γ ns A env ah ac W Mu s (.next (aA2 ρ i (.own (.ent es)))) Q):Q .next { s with heap:=h',toks:=tk }:=by
 have view:VLe (Fz s.heap Mu) (Fz h' Mu):=aL9 fun b o e=>k b o (fun z=>by rw [z,dQ0 F hl] at e;cases e)
 refine hid fun Gz zz=>?_
 obtain ⟨a,dx,es,nn,vs',kk,rfl,i1,i2,i3,i5,i4,ir⟩:=cP9 ov
 obtain ⟨F',st⟩:=F.turn (tk:=tk) hx hl hv k (.ent (view _ _ i1 Value.noConfusion) (view _ _ i2 Value.noConfusion) i3 i5 e (r.mono view)) t
 refine zz ?_;clear zz Gz
 exact K _ _ _ _ F' st
theorem cY0 (hx:aB6 ns sc i x=true) (hp:(p2.endLine == p3.line)=true) (hst:aA8 v1=true) (h:Vk C lev Γ ns e sc v1):Xk C lev Γ ns (.entApp i e) sc (.Expr (.Call (.Attribute (.Attribute (.Name x p) "useragents" p1) "append" p2) [v1] [] p3) q):=by
 intro A env ah ac ρ W Mu ad s F hs
 refine Al.bind fun do_ ho=>Al.bind fun de he=>Al.ent fun ds ed=>Al.ite fun hz=>Al.some fun Q E K=>?_
 subst ed
 have hl:=aO1 ho
 obtain ⟨v,vs,n,hv,ov,el,rl,mk,ld⟩:=cC3 F (vAt hs hx) hl
 refine Ex.expr F (aT7 (Mw:=Mu) F.cx PySem.F.slot_list_append PySem.F.type_list_append hp hst rfl ld el (fun aa aj aB=>h.f aB hs he) fun u ai al aF bn ru=>bE3 bn (rl.length ▸ aA9 hz (by decide)) fun h' n' k' e'=>?_) rfl
 exact bK7 (F.go al aF) (aK9 hs hx).1 hl (hv.ext F.mu F.frame al.ext) (ov.ext al.ext) k' e' ((rl.go al).append (.one ru)) (Nat.le_refl _) (K.after (al.stp F.ok.tab aF))
theorem cX9 (hx:aB6 ns sc i x=true) (hp:(p2.endLine == p3.line)=true) (hst:aA8 v1=true) (h:Vk C lev Γ ns e sc v1):Xk C lev Γ ns (.entIns i e y) sc (.Expr (.Call (.Attribute (.Attribute (.Name x p) "useragents" p1) "insert" p2) [v1,.Constant (.str y) n p4] [] p3) q):=by
 intro A env ah ac ρ W Mu ad s F hs
 refine Al.bind fun do_ ho=>Al.bind fun dk ek=>?_
 cases do_ with
 | ent ds=>cases dk with
  | int n =>
   refine Al.ite fun hz=>Al.some fun Q E K=>?_
   have hl:=aO1 ho
   obtain ⟨v,vs,m,hv,ov,el,rl,mk,ld⟩:=cC3 F (vAt hs hx) hl
   refine Ex.expr F (aT2 rfl hp (by rw [aA5 hst,aA5 (x:=.Constant _ _ _) rfl];rfl) (ld _ _ fun aa aj ax=>fun pl=>?_)) rfl
   have cU:=aj.ext _ _ el (.inl Value.noConfusion)
   refine getMethod_builtin ⟨_,cU,rfl⟩ PySem.F.plainAttrs_list PySem.F.slot_list_insert PySem.F.type_list_insert (fun a e=>by cases e;exact ⟨_,cU,rfl⟩) ?_
   rw [aA5 hst,aA5 (x:=.Constant _ _ _) rfl,aD9]
   refine callWith_builtin rfl (evalArgs_plain (spliced_cons ((h (F.go aj ax).cx hs _ ek).toks _ _ fun u ai al aF ru=>spliced_cons (Constant_str (spliced_nil ?_)))))
   obtain ⟨tk,rfl⟩:=aM2 ru
   have ga:=(aj.trans al).trans (Go.tok (s:=ai) (d:=ai.drawn) (tk:=ai.toks+1))
   have ta:s.toks≤ai.toks+1:=Nat.le_succ_of_le (aA9 ax aF)
   have hlen:=rl.length
   refine cQ0 (al.ext _ _ cU (.inl Value.noConfusion)) hz.1 (hlen ▸ hz.2.1) (hlen ▸ hz.2.2) fun h' n' k' e'=>?_
   have rr:=rl.go (aj.trans al)
   exact bK7 (F.go ga ta) (aK9 hs hx).1 hl (hv.ext F.mu F.frame ga.ext) (ov.ext ga.ext) k' e' ((bC2 _ rr).append (.cons (.str _ _) (bL7 _ rr))) (Nat.le_refl _) (K.after (ga.stp F.ok.tab ta))
  | _=>exact Al.none
 | _=>exact Al.none
theorem dW0 {it:It} {body:ISs} {l:List Stmt} (hx:aB6 ns sc i x=true) (h2:aP3 v1) (hi:Ik C lev Γ ns it sc v1) (hb:Xks C lev Γ ns body sc l):Xk C lev Γ ns (.for1 i it body) sc (.For (.Name x p) v1 l [] q):=fun F hs =>
 Al.bind fun ds e1 o ho Q E K=>cB3 (bodyRun:=aD7 Γ body) F h2 (hi F.cx hs _ e1) (fun x hx'=>by rw [List.mem_singleton.mp hx'];exact ⟨i,aK9 hs hx⟩) (cN2 (aK9 hs hx).1) (fun _ _ _ _ _ _ _ _ _ _ _ _ _ _ h=>wpAny_pure h) ho
  (fun ao W' Mu' ad' s' o' Q' E' F' hb' K'=>hb F' hs _ hb' Q' E' K') K
theorem dV9 {it:It} {body:ISs} {l:List Stmt} (hx:aB6 ns sc i x=true) (hy:aB6 ns sc j y=true) (hne:x≠y) (h2:aP3 v1) (hi:Ik C lev Γ ns it sc v1) (hb:Xks C lev Γ ns body sc l):Xk C lev Γ ns (.for2 i j it body) sc (.For (.Tuple [.Name x p,.Name y p1] n p2) v1 l [] q):=fun F hs =>
 Al.bind fun ds e1 o ho Q E K=>cB3 (bodyRun:=aD7 Γ body) F h2 (hi F.cx hs _ e1) (fun x hx'=>by
   rcases List.mem_cons.mp hx' with rfl | hx'
   ·exact ⟨i,aK9 hs hx⟩
   ·rw [List.mem_singleton.mp hx'];exact ⟨j,aK9 hs hy⟩) (bZ4 F.room.handled (aK9 hs hx).1 (aK9 hs hy).1 hne) (fun I fp P St aa itr i j s' v Q E hst hp hq=>itr.own i j s' _ _ _ v Q E hst hp hq) ho
  (fun ao W' Mu' ad' s' o' Q' E' F' hb' K'=>hb F' hs _ hb' Q' E' K') K
theorem cE3 {body:ISs} {l:List Stmt} (hx:aB6 ns sc i x=true) (hy:aB6 ns sc j y=true) (hne:x≠y) (hp:(p3.endLine == p4.line)=true) (hsup:aJ6 v1) (h:Vk C lev Γ ns e sc v1) (hb:Xks C lev Γ ns body sc l) :
  Xk C lev Γ ns (.forItems i j e body) sc (.For (.Tuple [.Name x p,.Name y p1] n p2) (.Call (.Attribute v1 "items" p3) [] [] p4) l [] q):=fun F hs =>
 Al.bind fun _ e1=>Al.dct fun kvs ed o ho Q E K=>cS8 (bodyRun:=aD7 Γ body) F (fun _ _=>rfl) (fun Q E k=>cI0 hp hsup (ed ▸ h.f F.cx hs e1) k) (aK9 hs hx) (aK9 hs hy) hne ho (fun ao W' Mu' ad' s' o' Q' E' F' hb' K'=>hb F' hs _ hb' Q' E' K') K
theorem dI9:Xks C lev Γ ns .nil sc []:=fun F hs=>Al.some fun Q E K=>wpAny_execs_nil (K _ _ _ _ F (.refl _ _ _))
theorem cL6 {is:IS} {iss:ISs} {st:Stmt} {l:List Stmt} (h:Xk C lev Γ ns is sc st) (hl:Xks C lev Γ ns iss sc l):Xks C lev Γ ns (.cons is iss) sc (st::l):=fun F hs=>Al.bind fun cm e1 o ho Q E K=>wpAny_execs_cons (h F hs _ e1 _ _ (by
 cases cm with
 | next ao=>exact fun W' Mu' ad' s' F' q=>hl F' hs _ ho _ _ (K.after q)
 | brk ao=>obtain rfl:=Option.some.inj ho;exact K
 | ret d=>obtain rfl:=Option.some.inj ho;exact K))
theorem cL5 {iss:ISs} {l:List Stmt} (hl:Xks C lev Γ ns iss sc l):Xks C lev Γ ns (.cons (.freeze j) iss) sc l:=by
 intro A env ah ac ρ W Mu ad s F hs
 refine Al.bind fun cm e1 o ho Q E K=>?_
 obtain ⟨d,hd,rfl⟩:=Option.map_eq_some_iff.mp (e1:(bV0 ρ j).map _=_)
 obtain ⟨F',st⟩:=F.freeze (aO1 hd)
 exact hl F' hs _ ho _ _ (K.after st)
end
noncomputable def eN3 {P:IS→List Stmt→Prop} (i:IS) (l:List Stmt) (kf:∀ j,Chk (P (.freeze j) l)) (kc:∀ x xs,Chk (P i (x::xs))):Chk (P i l) :=
 if h:i.ctorIdx=6 then IS.freeze.elim (motive_1:=fun i=>Chk (P i l)) i h kf else aR0 l kc
variable (C lev Γ ns)
structure RcS where
 s:(i:IS)→(sc:Scope)→(st:Stmt)→Chk (Xk C lev Γ ns i sc st)
 ss:(is:ISs)→(sc:Scope)→(l:List Stmt)→Chk (Xks C lev Γ ns is sc l)
noncomputable def stS (R:RcS C lev Γ ns):(i:IS)→(sc:Scope)→(st:Stmt)→Chk (Xk C lev Γ ns i sc st)
 | .asg i e,sc,st=>aF8 st fun x _ v _=>chB (aB6 ns sc i x) fun hx=>chB (bM3 sc x v) fun hp=>(mtE C lev Γ ns e sc v).bind fun h=>yes (dW3 hx hp h)
 | .asgC i e j it ifs,sc,st=>aF8 st fun x p v q=>cW5 (P:=fun v=>Xk C lev Γ ns (.asgC i e j it ifs) sc (.Assign [.Name x p] v q)) v fun v1 tg v2 xs n sc' p2 hn=>aD3 (P:=fun tg=>Xk C lev Γ ns (.asgC i e j it ifs) sc (.Assign [.Name x p] (.ListComp v1 [⟨tg,v2,xs,n⟩] sc' p2) q)) tg fun y _ =>
   chB (aB6 ns sc i x) fun hx=>chP (sc.names.lookup x=some .local) fun hl=>chP (p.line=p2.line) fun hp=>chP ((sc'.names.any fun q=>q.1 == x&&(q.2 == .local || q.2 == .cell))=false) fun hno=>chP (ns[j]?=some y) fun h0=>chB (aY3 sc' sc [y]) fun h1=>(bD7 v2).bind fun h2 =>
   (mtE C lev Γ ns e (aE2 sc' sc) v1).bind fun ha=>(mtI C lev Γ ns it sc v2).bind fun hi=>(eV2 C lev Γ ns ifs (aE2 sc' sc) xs).bind fun ht=>yes (hn ▸ dW2 hx hl hp hno h0 h1 h2 ha hi ht)
 | .own i es,sc,st=>aF8 st fun x p v q=>cD3 (P:=fun v=>Xk C lev Γ ns (.own i es) sc (.Assign [.Name x p] v q)) v fun vs _=>chB (aB6 ns sc i x) fun hx=>(eL3 C lev Γ ns es sc vs).bind fun h=>yes (eH7 hx h)
 | .ownMul i es e,sc,st=>aF8 st fun x p v q=>cW6 (P:=fun v=>Xk C lev Γ ns (.ownMul i es e) sc (.Assign [.Name x p] v q)) v fun l o r p2=>cD3 (P:=fun l=>Xk C lev Γ ns (.ownMul i es e) sc (.Assign [.Name x p] (.BinOp l o r p2) q)) l fun vs _=>chP (.Mult=o) fun ho=>chB (aB6 ns sc i x) fun hx =>
   (eL3 C lev Γ ns es sc vs).bind fun h=>(mtE C lev Γ ns e sc r).bind fun h2=>yes (ho ▸ cX7 hx h h2)
 | .ownDict i,sc,st=>aF8 st fun x p v q=>cD4 (P:=fun v=>Xk C lev Γ ns (.ownDict i) sc (.Assign [.Name x p] v q)) v fun ks vs p1=>aJ2 (P:=fun ks=>Xk C lev Γ ns (.ownDict i) sc (.Assign [.Name x p] (.Dict ks vs p1) q)) ks (aJ2 (P:=fun vs=>Xk C lev Γ ns (.ownDict i) sc (.Assign [.Name x p] (.Dict [] vs p1) q)) vs (chB (aB6 ns sc i x) fun hx=>yes (cL7 hx)))
 | .ownBarr _ _,_,_=>yes fun _ _=>Al.none
 | .freeze _,_,_=>no
 | .aug i op e,sc,st=>bB4 st fun t o v q=>aD3 (P:=fun t=>Xk C lev Γ ns (.aug i op e) sc (.AugAssign t o v q)) t fun x _=>chB (aB6 ns sc i x) fun hx=>chP (bO4 op=o) fun ho=>(mtE C lev Γ ns e sc v).bind fun h=>yes (ho ▸ eI0 hx h)
 | .setIdx i e1 e2,sc,st=>bG9 st fun ts v q=>at1 (P:=fun ts=>Xk C lev Γ ns (.setIdx i e1 e2) sc (.Assign ts v q)) ts fun t=>aK0 (P:=fun t=>Xk C lev Γ ns (.setIdx i e1 e2) sc (.Assign [t] v q)) t fun o k p=>aD3 (P:=fun o=>Xk C lev Γ ns (.setIdx i e1 e2) sc (.Assign [.Subscript o k p] v q)) o fun x _ =>
   chB (aB6 ns sc i x) fun hx=>chB (bX0 v) fun hc=>(mtE C lev Γ ns e1 sc k).bind fun hk=>(mtE C lev Γ ns e2 sc v).bind fun hv=>yes (cX6 hx hc hk hv)
 | .augIdx i e1 op e2,sc,st=>bB4 st fun t o v q=>aK0 (P:=fun t=>Xk C lev Γ ns (.augIdx i e1 op e2) sc (.AugAssign t o v q)) t fun z k p=>aD3 (P:=fun z=>Xk C lev Γ ns (.augIdx i e1 op e2) sc (.AugAssign (.Subscript z k p) o v q)) z fun x _ =>
   chB (aB6 ns sc i x) fun hx=>chB (cB1 k) fun hc=>chP (bO4 op=o) fun ho=>(mtE C lev Γ ns e1 sc k).bind fun hk=>(mtE C lev Γ ns e2 sc v).bind fun hv=>yes (ho ▸ cY1 hx hc hk hv)
 | .app i e,sc,st=>bH0 st fun z m p1 as p2 q=>aD3 (P:=fun z=>Xk C lev Γ ns (.app i e) sc (.Expr (.Call (.Attribute z m p1) as [] p2) q)) z fun x p=>at1 (P:=fun as=>Xk C lev Γ ns (.app i e) sc (.Expr (.Call (.Attribute (.Name x p) m p1) as [] p2) q)) as fun v =>
   chB (aB6 ns sc i x) fun hx=>chP ("append"=m) fun hm=>chB (p1.endLine == p2.line) fun hp=>chB (aA8 v) fun hst=>(mtE C lev Γ ns e sc v).bind fun h=>yes (hm ▸ eI1 hx hp hst h)
 | .appPop i j e,sc,st=>bH0 st fun z m p1 as p2 q=>aD3 (P:=fun z=>Xk C lev Γ ns (.appPop i j e) sc (.Expr (.Call (.Attribute z m p1) as [] p2) q)) z fun x p=>at1 (P:=fun as=>Xk C lev Γ ns (.appPop i j e) sc (.Expr (.Call (.Attribute (.Name x p) m p1) as [] p2) q)) as fun u =>
   aH6 (P:=fun u=>Xk C lev Γ ns (.appPop i j e) sc (.Expr (.Call (.Attribute (.Name x p) m p1) [u] [] p2) q)) u fun o m' p4 as p5=>aD3 (P:=fun o=>Xk C lev Γ ns (.appPop i j e) sc (.Expr (.Call (.Attribute (.Name x p) m p1) [.Call (.Attribute o m' p4) as [] p5] [] p2) q)) o fun y p3 =>
   at1 (P:=fun as=>Xk C lev Γ ns (.appPop i j e) sc (.Expr (.Call (.Attribute (.Name x p) m p1) [.Call (.Attribute (.Name y p3) m' p4) as [] p5] [] p2) q)) as fun v=>chB (aB6 ns sc i x) fun hx=>chB (aB6 ns sc j y) fun hy=>chP ("append"=m) fun hm=>chP ("pop"=m') fun hm'=>chB (p1.endLine == p2.line) fun hp=>chB (p4.endLine == p5.line) fun hp' =>
   chB (aA8 v) fun hst=>(mtE C lev Γ ns e sc v).bind fun h=>yes (hm ▸ hm' ▸ cY2 hx hy hp hp' hst h)
 | .extd i e,sc,st=>bH0 st fun z m p1 as p2 q=>aD3 (P:=fun z=>Xk C lev Γ ns (.extd i e) sc (.Expr (.Call (.Attribute z m p1) as [] p2) q)) z fun x p=>at1 (P:=fun as=>Xk C lev Γ ns (.extd i e) sc (.Expr (.Call (.Attribute (.Name x p) m p1) as [] p2) q)) as fun v =>
   chB (aB6 ns sc i x) fun hx=>chP ("extend"=m) fun hm=>chB (p1.endLine == p2.line) fun hp=>chB (aA8 v) fun hst=>(mtE C lev Γ ns e sc v).bind fun h=>yes (hm ▸ dW1 hx hp hst h)
 | .entNew i,sc,st=>aF8 st fun x p v q=>aH1 (P:=fun v=>Xk C lev Γ ns (.entNew i) sc (.Assign [.Name x p] v q)) v fun y p1 as p2=>aJ2 (P:=fun as=>Xk C lev Γ ns (.entNew i) sc (.Assign [.Name x p] (.Call (.Name y p1) as [] p2) q)) as (chB (aB6 ns sc i x) fun hx=>chB (aC4 sc y "Entry") fun hg=>yes (cX8 hx hg))
 | .entApp i e,sc,st=>bH0 st fun z m p2 as p3 q=>aM6 (P:=fun z=>Xk C lev Γ ns (.entApp i e) sc (.Expr (.Call (.Attribute z m p2) as [] p3) q)) z fun z g p1=>aD3 (P:=fun z=>Xk C lev Γ ns (.entApp i e) sc (.Expr (.Call (.Attribute (.Attribute z g p1) m p2) as [] p3) q)) z fun x p =>
   at1 (P:=fun as=>Xk C lev Γ ns (.entApp i e) sc (.Expr (.Call (.Attribute (.Attribute (.Name x p) g p1) m p2) as [] p3) q)) as fun v=>chB (aB6 ns sc i x) fun hx=>chP ("useragents"=g) fun hg=>chP ("append"=m) fun hm=>chB (p2.endLine == p3.line) fun hp=>chB (aA8 v) fun hst=>(mtE C lev Γ ns e sc v).bind fun h=>yes (hg ▸ hm ▸ cY0 hx hp hst h)
 | .entIns i e y,sc,st=>bH0 st fun z m p2 as p3 q=>aM6 (P:=fun z=>Xk C lev Γ ns (.entIns i e y) sc (.Expr (.Call (.Attribute z m p2) as [] p3) q)) z fun z g p1=>aD3 (P:=fun z=>Xk C lev Γ ns (.entIns i e y) sc (.Expr (.Call (.Attribute (.Attribute z g p1) m p2) as [] p3) q)) z fun x p =>
   at2 (P:=fun as=>Xk C lev Γ ns (.entIns i e y) sc (.Expr (.Call (.Attribute (.Attribute (.Name x p) g p1) m p2) as [] p3) q)) as fun v w=>bU4 (P:=fun w=>Xk C lev Γ ns (.entIns i e y) sc (.Expr (.Call (.Attribute (.Attribute (.Name x p) g p1) m p2) [v,w] [] p3) q)) w fun y' _ _ =>
   chB (aB6 ns sc i x) fun hx=>chP ("useragents"=g) fun hg=>chP ("insert"=m) fun hm=>chB (p2.endLine == p3.line) fun hp=>chB (aA8 v) fun hst=>chP (y=y') fun hy=>(mtE C lev Γ ns e sc v).bind fun h=>yes (hy ▸ hg ▸ hm ▸ cX9 hx hp hst h)
 | .ite t a b,sc,st=>eF2 st fun v l1 l2 _=>(mtT C lev Γ ns t sc v).bind fun ht=>(R.ss a sc l1).bind fun ha=>(R.ss b sc l2).bind fun hb=>yes (eH8 ht ha hb)
 | .for1 i it body,sc,st=>bU5 st fun t v l l' q=>aJ2 (P:=fun l'=>Xk C lev Γ ns (.for1 i it body) sc (.For t v l l' q)) l' (aD3 (P:=fun t=>Xk C lev Γ ns (.for1 i it body) sc (.For t v l [] q)) t fun x _=>chB (aB6 ns sc i x) fun hx=>(bD7 v).bind fun h2=>(mtI C lev Γ ns it sc v).bind fun hi=>(R.ss body sc l).bind fun hb=>yes (dW0 hx h2 hi hb))
 | .for2 i j it body,sc,st=>bU5 st fun t v l l' q=>aJ2 (P:=fun l'=>Xk C lev Γ ns (.for2 i j it body) sc (.For t v l l' q)) l' (cD1 (P:=fun t=>Xk C lev Γ ns (.for2 i j it body) sc (.For t v l [] q)) t fun x _ y _ _ _=>chB (aB6 ns sc i x) fun hx=>chB (aB6 ns sc j y) fun hy=>chP (x≠y) fun hne=>(bD7 v).bind fun h2 =>
   (mtI C lev Γ ns it sc v).bind fun hi=>(R.ss body sc l).bind fun hb=>yes (dV9 hx hy hne h2 hi hb))
 | .forItems i j e body,sc,st=>bU5 st fun t v l l' q=>aJ2 (P:=fun l'=>Xk C lev Γ ns (.forItems i j e body) sc (.For t v l l' q)) l' (cD1 (P:=fun t=>Xk C lev Γ ns (.forItems i j e body) sc (.For t v l [] q)) t fun x p y p1 n p2=>aH6 (P:=fun v=>Xk C lev Γ ns (.forItems i j e body) sc (.For (.Tuple [.Name x p,.Name y p1] n p2) v l [] q)) v fun v m p3 as p4 =>
   aJ2 (P:=fun as=>Xk C lev Γ ns (.forItems i j e body) sc (.For (.Tuple [.Name x p,.Name y p1] n p2) (.Call (.Attribute v m p3) as [] p4) l [] q)) as (chB (aB6 ns sc i x) fun hx=>chB (aB6 ns sc j y) fun hy=>chP (x≠y) fun hne=>chP ("items"=m) fun hm=>chB (p3.endLine == p4.line) fun hp=>(bD3 v).bind fun hs =>
   (mtE C lev Γ ns e sc v).bind fun h=>(R.ss body sc l).bind fun hb=>yes (hm ▸ cE3 hx hy hne hp hs h hb)))
 | .whil _ t body,sc,st=>dH6 st fun v l l' p=>aJ2 (P:=fun l'=>Xk C lev Γ ns (.whil _ t body) sc (.While v l l' p)) l' ((mtT C lev Γ ns t sc v).bind fun ht=>(R.ss body sc l).bind fun hb=>yes (dV8 ht hb))
 | .ret e,sc,st=>cW1 st fun v p=>bG8 (P:=fun v=>Xk C lev Γ ns (.ret e) sc (.Return v p)) v fun v=>(mtE C lev Γ ns e sc v).bind fun h=>yes (eH6 h)
 | .brk,_,st=>dH7 st fun _=>yes eH9
 | .dead,_,_=>yes fun _ _=>Al.none
noncomputable def eQ8 (R:RcS C lev Γ ns):(is:ISs)→(sc:Scope)→(l:List Stmt)→Chk (Xks C lev Γ ns is sc l)
 | .nil,_,l=>aJ2 l (yes dI9)
 | .cons i is,sc,l=>eN3 (P:=fun i l=>Xks C lev Γ ns (.cons i is) sc l) i l (fun _=>(R.ss is sc l).bind fun h=>yes (cL5 h)) fun x xs=>(R.s i sc x).bind fun h=>(R.ss is sc xs).bind fun hs=>yes (cL6 h hs)
noncomputable def eO8 (n:Nat):RcS C lev Γ ns:=Nat.rec ⟨fun _ _ _=>no,fun _ _ _=>no⟩ (fun _ R=>⟨stS C lev Γ ns R,eQ8 C lev Γ ns R⟩) n
noncomputable abbrev mtS:=(eO8 C lev Γ ns 64).s
noncomputable abbrev eO7:=(eO8 C lev Γ ns 64).ss
end
end Mine
end
section
open PySem PySem.W PyProof.Rows PySem.Calls PySem.Spec
set_option autoImplicit false
set_option maxRecDepth 4000
namespace Mine
noncomputable def ro0 (i:Nat):List D→Ro
 | []=>[]
 | d::ds=>(i,.dat d)::ro0 (i+1) ds
noncomputable def aC5:Out→Option D
 | .ret d=>some d
 | _=>none
noncomputable def bP0 (n:Nat) (Γ:List Fn) (is:ISs) (ds:List D):Option D:=if ds.length=n then (aD7 Γ is (ro0 0 ds)).bind aC5 else none
theorem cA2:∀ (ds:List D) (k i:Nat) (lv:LV),(ro0 k ds).lookup i=some lv→k≤i∧∃ d,ds[i - k]?=some d∧lv=.dat d
 | [],k,i,lv,h=>by exact nos h
 | d::ds,k,i,lv,h=>by
  (dsimp only [ro0] at h;rw [List.lookup_cons] at h)
  cases e:i == k with
  | true =>
   rw [e] at h;obtain rfl:=Option.some.inj h
   rw [eq_of_beq e]
   exact ⟨Nat.le_refl _,d,by simp,rfl⟩
  | false =>
   rw [e] at h
   obtain ⟨h1,d',h2,h3⟩:=cA2 ds (k+1) i lv h
   refine ⟨bB7 h1,d',?_,h3⟩
   have:i - k=(i - (k+1))+1:=eG9 h1
   rw [this,List.getElem?_cons_succ]
   exact h2
noncomputable def bL4 (ns params:List Str) (sc:Scope):Bool :=
 decide (sc.kind=.function)&&aH2 (sc.names.map (·.1))&&aH2 ns&&!ns.contains (".0":Str)&&decide (ns.take params.length=params) &&
 sc.names.all (fun p=>decide (p.2=.local) || decide (p.2=.cell) || decide (p.2=.globalImplicit)) &&
 params.all (fun x=>decide (sc.names.lookup x=some .local) || decide (sc.names.lookup x=some .cell))
section
variable {C:Cfg} {lev:Nat} {Γ:List Fn} {ns fs:List Str} {A:Around} {env:Env} {Mu:Addr→Bool} {s s':Shared}
theorem cF2 {x:Str} {v:Value} {Q:Unit→Shared→Prop} {E:Value→Shared→Prop} (eo:EnvOk env) (F:FrameIs Mu env s.heap) (cs:aE7 env x)
  (h:∀ h' tk,Stored Mu env x v s.heap h'→s.toks≤tk→(env.kindOf x=some .local→s.toks < tk)→Q () { s with heap:=h',toks:=tk }):wpAny (model C.prog C.w) A (storeName env x v) Q E s:=by
 obtain ⟨m,hn⟩:=F.ns
 have turn:∀ {a:Addr} {h':Heap} {o':Obj},h'.get? a=some o'→(∀ o o',s.heap.get? a=some o→h'.get? a=some o'→o'.cls=o.cls)→∀ o,s.heap.get? a=some o→aL8 o→∃ o',h'.get? a=some o'∧aL8 o' :=
  fun {a h' o'} e' hc o e t=>⟨o',e',by unfold aL8;rw [hc o o' e e'];exact t⟩
 by_cases hl:env.kindOf x=some .local
 ·refine bD5 hl eo.kind hn fun h' hn' hs' hc=>h h' _ ?_ (Nat.le_succ _) fun _=>Nat.lt_succ_self _
  have sl:slot env x=env.locals:=if_pos hl
  have cell:∀ y c v',env.cells.lookup y=some c→s.heap.IsCell c v'→h'.IsCell c v':=fun y c v' q hv=>hv.sameBut hs' (eo.off y c q)
  refine ⟨.inl ⟨hl,_,hn',if_pos rfl⟩,?_,?_,?_,⟨⟨_,hn'⟩,?_,F.muL,F.muC⟩,by rw [sl];exact F.muL⟩
  ·rintro y u hy (⟨k,m',n',q⟩ | ⟨k,c,q,hv⟩)
   ·exact .inl ⟨k,_,hn',by rw [if_neg hy,Ns.same hn n'];exact q⟩
   ·exact .inr ⟨k,c,q,cell y c _ q hv⟩
  ·intro b o hb e
   rw [sl] at hb;exact hs'.extBut b o hb e
  ·rw [sl]
   refine hid fun Gz zz=>?_
   obtain ⟨o',_,_,e',_⟩:=id hn'
   refine zz ?_;clear zz Gz
   exact turn e' hc
  ·intro y c q
   obtain ⟨v',hv⟩:=F.cell y c q
   exact ⟨v',cell y c _ q hv⟩
 ·exact aM1 eo F cs fun h' tk S ht=>h h' tk S ht fun z=>absurd z hl
theorem cV6 (eo:EnvOk env):∀ (bs done:List (Str × Value)) (s:Shared) {Q:PUnit→Shared→Prop} {E:Value→Shared→Prop},FrameIs Mu env s.heap→MuOk C Mu s.heap→(∀ p∈bs,aE7 env p.1)→((done++bs).map (·.1)).Nodup→(∀ p∈done,HasVar env s.heap p.1 p.2) →
  (∀ h' tk,FrameIs Mu env h'→MuOk C Mu h'→(∀ p∈done++bs,HasVar env h' p.1 p.2)→(∀ b o,(∀ x,aE7 env x→b≠slot env x)→s.heap.get? b=some o→h'.get? b=some o)→s.toks≤tk→((∀ p∈bs,env.kindOf p.1=some .local)→bs≠[]→s.toks < tk)→Q ⟨⟩ { s with heap:=h',toks:=tk }) →
  wpAny (model C.prog C.w) A (forIn bs PUnit.unit fun (p:Str × Value) _=>do storeName env p.1 p.2;pure (ForInStep.yield PUnit.unit)) Q E s
 | [],done,s,Q,E,F,M,_,_,hd,k=>by
  rw [List.forIn_nil]
  exact wpAny_pure (k s.heap s.toks F M (by simpa using hd) (fun _ _ _ e=>e) (Nat.le_refl _) fun _ z=>absurd rfl z)
 | (x,v)::bs,done,s,Q,E,F,M,cs,nd,hd,k=>by
  rw [List.forIn_cons]
  refine wpAny_bind (wpAny_bind (cF2 eo F (cs _ (.head _)) fun h' tk S ht htl=>wpAny_pure ?_))
  refine cV6 eo bs (done++[(x,v)]) _ S.frame (S.mu M) (fun p hp=>cs p (.tail _ hp)) (by simpa using nd) (fun p hp=>?_) fun h'' tk'' F' M' hd' kp ht' _=>?_
  ·rcases List.mem_append.mp hp with hp | hp
   ·refine S.others p.1 p.2 (fun z=>?_) (hd p hp)
    rw [List.map_append,List.nodup_append] at nd
    exact nd.2.2 p.1 (List.mem_map_of_mem hp) x (.head _) z
   ·rw [List.mem_singleton.mp hp];exact S.has
  ·refine k h'' tk'' F' M' (by simpa using hd') (fun b o hb e=>kp b o hb (S.keep b o (hb x (cs _ (.head _))) e)) (aA9 ht ht') fun hl _=>aM7 (htl (hl _ (.head _))) ht'
theorem cS6 {scope:Scope} {qual:Str} {func:Option Addr} {code:Value} {binds:List (Str × Value)} (hk:scope.kind=.function) (hd:aH2 (scope.names.map (·.1))=true)
  (hn:∀ x k,(x,k)∈scope.names→k=.local∨k=.cell∨k=.globalImplicit) (M:MuOk C Mu s.heap) (hPT:∃ o,s.heap.get? C.PT=some o) (hb:∀ p∈binds,scope.names.lookup p.1=some .local∨scope.names.lookup p.1=some .cell) (nd:(binds.map (·.1)).Nodup)
  {Q:Env→Shared→Prop} {E:Value→Shared→Prop}
  (h:∀ env Mv h' tk,env.scope=scope→EnvOk env→(env.frame=some env.locals∧env.code=code∧env.locals=s.heap.objs.size)→FrameIs Mv env h'→MuOk C Mv h'→(∀ p∈binds,HasVar env h' p.1 p.2)→(∀ x,(scope.names.lookup x=some .local∨scope.names.lookup x=some .cell)→aE7 env x) →
   (∀ a,Mu a=true→Mv a=true)→(∀ a,Mv a=true→Mu a=true∨s.heap.get? a=none)→s.heap.get? env.locals=none→(∀ x c,env.cells.lookup x=some c→s.heap.get? c=none) →
   (∀ b o,s.heap.get? b=some o→h'.get? b=some o)→s.toks≤tk∧((∀ p∈binds,scope.names.lookup p.1=some .local)→binds≠[]→s.toks < tk)→Q env { s with heap:=h',toks:=tk }) :
  wpAny (model C.prog C.w) A (newFunctionEnv scope mainGlobals [] binds qual func code none builtinsNs) Q E s:=by
 simp only [newFunctionEnv,Option.isSome_none,Bool.false_eq_true,if_false]
 refine wpAny_bind (wpAny_alloc ?_)
 refine wpAny_bind (wpAny_layCells _ (fun name kind cells=>by cases kind == NameKind.cell<;>simp) _ _ _ _ ?_)
 have hsz:(s.heap.push { cls:=.type "frame",data:=.dict #[] }).objs.size=s.heap.objs.size+1:=Heap.size_push ..
 show wpAny _ A _ _ _ { s with heap:=pushCells (s.heap.push { cls:=.type "frame",data:=.dict #[] }) scope.names }
 rw [show ({ s with heap:=s.heap.push { cls:=.type "frame",data:=.dict #[] } }:Shared).heap.objs.size=s.heap.objs.size+1 from hsz]
 have keep:∀ b o,s.heap.get? b=some o→(pushCells (s.heap.push { cls:=.type "frame",data:=.dict #[] }) scope.names).get? b=some o:=fun b o e=>pushCells_keeps _ _ b o (Heap.get?_push_of_some _ e)
 have fresh:∀ a,s.heap.objs.size≤a→s.heap.get? a=none:=fun a ha=>by
  cases e:s.heap.get? a with
  | none=>rfl
  | some o'=>exact absurd (Heap.lt_size e) (Nat.not_lt.mpr ha)
 have obj:=aJ1 scope.names (s.heap.push { cls:=.type "frame",data:=.dict #[] })
 rw [hsz] at obj
 have ok:=cellsFrom_ok scope.names (s.heap.push { cls:=.type "frame",data:=.dict #[] }) (s.heap.objs.size+1) [] ⟨fun _ _ hm=>(nomatch hm),List.Pairwise.nil⟩ (hsz ▸ Nat.le_refl _)
 rw [hsz] at ok
 generalize hE:newEnv scope s.heap.objs.size mainGlobals (cellsFrom (s.heap.objs.size+1) scope.names []) qual func code none builtinsNs=env
 have hcells:env.cells=cellsFrom (s.heap.objs.size+1) scope.names []:=by rw [← hE];rfl
 have hloc:env.locals=s.heap.objs.size:=by rw [← hE];rfl
 have hscope:env.scope=scope:=by rw [← hE];rfl
 have hown:∀ a∈aR1 s.heap.objs.size scope,s.heap.objs.size≤a:=fun a ha=>by
  refine hid fun Gz zz=>?_
  rcases List.mem_cons.mp ha with rfl | ha
  ·refine zz ?_;clear zz Gz
   exact Nat.le_refl _
  ·refine zz ?_;clear zz Gz
   obtain ⟨p,hp,rfl⟩:=List.mem_map.mp ha
   have:=(obj p hp).1;exact bB7 this
 have inOwn:∀ x c,env.cells.lookup x=some c→c∈aR1 s.heap.objs.size scope:=fun x c q=>by
  rw [hcells] at q
  exact .tail _ (List.mem_map_of_mem (f:=(·.2)) (mem_of_lookup q))
 have look:∀ x c,env.cells.lookup x=some c→(x,c)∈cellsFrom (s.heap.objs.size+1) scope.names []:=fun x c q=>by rw [hcells] at q;exact mem_of_lookup q
 have hasCell:∀ x,scope.names.lookup x=some .cell→(env.cells.lookup x).isSome=true:=fun x q=>by
  obtain ⟨c,m⟩:=aL6 scope.names (s.heap.objs.size+1) x (mem_of_lookup q)
  rw [hcells]
  exact Option.isSome_iff_exists.mpr (aI4 m)
 have eo:EnvOk env:=by
  refine ⟨by rw [hscope];exact hk,by rw [← hE];rfl,by rw [← hE];rfl,fun x y c qx qy=>name_of_addr ok.apart (look x c qx) (look y c qy),fun x c q=>?_,fun x q=>?_⟩
  ·rw [hloc];exact Nat.ne_of_gt (obj _ (look x c q)).1
  ·unfold Env.kindOf at q
   rw [hscope] at q
   rcases q with q | q
   ·exact hasCell x q
   ·rcases hn x _ (mem_of_lookup q) with z | z | z<;>cases z
 have can:∀ x,(scope.names.lookup x=some .local∨scope.names.lookup x=some .cell)→aE7 env x:=fun x q=>by
  rcases q with q | q
  ·exact .inl (by unfold Env.kindOf;rw [hscope];exact q)
  ·exact .inr ⟨by unfold Env.kindOf;rw [hscope];exact q,hasCell x q⟩
 generalize hMv:(fun a=>Mu a || (aR1 s.heap.objs.size scope).contains a)=Mv
 have mvOwn:∀ a∈aR1 s.heap.objs.size scope,Mv a=true:=fun a ha=>by rw [← hMv];simp [ha]
 have mvCases:∀ a,Mv a=true→Mu a=true∨a∈aR1 s.heap.objs.size scope:=fun a ha=>by
  rw [← hMv] at ha
  rw [Bool.or_eq_true] at ha
  exact ha.imp id List.contains_iff_mem.mp
 have F:FrameIs Mv env (pushCells (s.heap.push { cls:=.type "frame",data:=.dict #[] }) scope.names):=by
  refine ⟨⟨_,by rw [hloc];exact (Heap.Ns.new s.heap (.type "frame")).keeps (pushCells_keeps _ _)⟩,fun x c q=>⟨none,_,(obj _ (look x c q)).2.1,rfl⟩,by rw [hloc];exact mvOwn _ (.head _),fun x c q=>mvOwn c (inOwn x c q)⟩
 have MM:MuOk C Mv (pushCells (s.heap.push { cls:=.type "frame",data:=.dict #[] }) scope.names):=fun a ha=>by
  rcases mvCases a ha with ha | ha
  ·obtain ⟨c,o,e,t⟩:=M a ha
   exact ⟨c,o,keep _ _ e,t⟩
  ·obtain ⟨oP,hP⟩:=hPT
   refine ⟨fun z=>absurd (Heap.lt_size hP) (Nat.not_lt.mpr (z ▸ hown a ha)),?_⟩
   rcases List.mem_cons.mp ha with rfl | q
   ·exact ⟨_,pushCells_keeps _ _ _ _ (Heap.get?_push_size _ rfl),⟨by simp,by simp⟩⟩
   ·obtain ⟨p,hp,rfl⟩:=List.mem_map.mp q
    exact ⟨_,(obj p hp).2.1,⟨by simp,by simp⟩⟩
 refine wpAny_bind (m:=forIn binds PUnit.unit fun (p:Str × Value) _=>do storeName _ p.1 p.2;pure (ForInStep.yield PUnit.unit)) ?_
 show wpAny _ A (forIn binds PUnit.unit fun (p:Str × Value) _=>do storeName (newEnv scope s.heap.objs.size mainGlobals (cellsFrom (s.heap.objs.size+1) scope.names []) qual func code none builtinsNs) p.1 p.2;pure (ForInStep.yield PUnit.unit)) _ _ _
 rw [hE]
 refine cV6 eo binds [] _ F MM (fun p hp=>can p.1 (hb p hp)) (nd) (fun p hp=>(List.not_mem_nil hp).elim) fun h' tk F' M' hv kp ht htl=>wpAny_pure ?_
 rw [show (({ scope,locals:=s.heap.objs.size,globals:=mainGlobals,cells:=cellsFrom (s.heap.objs.size+1) scope.names [],qual,func,code,frame:=some s.heap.objs.size,builtins:=builtinsNs }:Env))=env from hE]
 refine h env Mv h' tk hscope eo (hE ▸ ⟨rfl,rfl,rfl⟩) F' M' (hv) can (fun a ha=>by rw [← hMv];simp [ha]) (fun a ha=>(mvCases a ha).imp id fun z=>fresh a (hown a z)) (hloc ▸ fresh _ (Nat.le_refl _)) (fun x c q=>fresh c (hown c (inOwn x c q))) (fun b o e=>kp b o (fun x cx z=>?_) (keep b o e)) ⟨ht,fun hl hne=>htl (fun p hp=>by show env.scope.names.lookup p.1=_;rw [hscope];exact hl p hp) hne⟩
 have hs:slot env x∈aR1 s.heap.objs.size scope:=by
  unfold slot
  split
  ·rw [hloc];exact .head _
  ·rename_i q
   rcases cx with cx | ⟨_,cx⟩
   ·exact absurd cx q
   ·obtain ⟨c,hc⟩:=Option.isSome_iff_exists.mp cx
    rw [hc];exact inOwn x c hc
 rw [z,fresh _ (hown _ hs)] at e;exact nos e
structure DefIs (C:Cfg) (fa:Addr) (params:List Str) (body:List Stmt) (sc:Scope):Prop where
 is:∃ o fd,C.K.lookup fa=some o∧o.data=.func fd∧fd.scope=sc∧fd.body=.stmts body∧fd.closure=[]∧fd.globals=mainGlobals∧fd.builtins=builtinsNs∧codeIn C.K fd.code fd.qualname=true ∧
  ∀ vs:List Value,vs.length=params.length→bindArgs fd ⟨vs,[]⟩=pure (params.zip vs)
 co:sc.isCoroutine=false
 gen:sc.isGenerator=false
theorem CallOk.lift {f:Addr} {g:List D→Option D} (h:CallOk C lev f g):CallOk C (lev+1) f g:=fun A Mu s vs ds d R=>h A Mu s vs ds d ⟨R.handled,by have:=R.depth;exact eO5 this,by have:=R.units;exact eO0 this⟩
theorem cL2 {α β:Type}:∀ {xs:List α} {ys:List β} {i:Nat} {x:α} {y:β},xs[i]?=some x→ys[i]?=some y→(x,y)∈xs.zip ys
 | _::_,_::_,0,_,_,h1,h2=>by simp at h1 h2;subst h1;subst h2;exact .head _
 | _::xs,_::ys,i+1,_,_,h1,h2=>by
  rw [List.zip_cons_cons]
  exact .tail _ (cL2 (h1) (h2))
 | [],_,_,_,_,h1,_=>by simp at h1
 | _::_,[],_,_,_,_,h2=>by simp at h2
structure ScopeIs (ns params:List Str) (sc:Scope):Prop where
 kind:sc.kind=.function
 dist:aH2 (sc.names.map (·.1))=true
 nd:ns.Nodup∧(".0":Str)∉ns
 take:ns.take params.length=params
 kinds:∀ x k,(x,k)∈sc.names→k=.local∨k=.cell∨k=.globalImplicit
 pars:∀ x∈params,sc.names.lookup x=some .local∨sc.names.lookup x=some .cell
theorem bZ9 {params:List Str} {sc:Scope} (h:bL4 ns params sc=true):ScopeIs ns params sc:=by
 simp only [bL4,Bool.and_eq_true,decide_eq_true_eq,Bool.not_eq_true',List.all_eq_true,Bool.or_eq_true] at h
 refine ⟨h.1.1.1.1.1.1,h.1.1.1.1.1.2,⟨aO3 h.1.1.1.1.2,fun m=>?_⟩,h.1.1.2,fun x k m=>?_,h.2⟩
 ·have:=h.1.1.1.2;rw [List.contains_iff_mem.mpr m] at this;cases this
 ·rcases h.1.2 (x,k) m with (z | z) | z
  ·exact .inl z
  ·exact .inr (.inl z)
  ·exact .inr (.inr z)
theorem ScopeIs.ndP {params:List Str} {sc:Scope} (h:ScopeIs ns params sc):params.Nodup:=h.take ▸ h.nd.1.sublist (List.take_sublist _ _)
theorem ScopeIs.vis {params:List Str} {sc:Scope} (h:ScopeIs ns params sc) {x:Str} (hx:bB6 sc x=true):sc.names.lookup x=some .local∨sc.names.lookup x=some .cell:=by
 unfold bB6 at hx
 cases q:sc.names.lookup x with
 | none=>rw [q] at hx;exact noB hx
 | some kk =>
  rcases h.kinds x kk (mem_of_lookup q) with z | z | z
  ·subst z;exact .inl rfl
  ·subst z;exact .inr rfl
  ·subst z;rw [q] at hx;exact noB hx
theorem dQ9 {Mv:Addr→Bool} {h':Heap} (hnew:∀ a,Mv a=true→Mu a=true∨s.heap.get? a=none) (keep:∀ b o,s.heap.get? b=some o→h'.get? b=some o):VLe (Fz s.heap Mu) (Fz h' Mv):=fun a ob q c=>by
 unfold Fz at q ⊢
 by_cases m:Mu a=true
 ·rw [if_pos m] at q;exact nos q
 ·rw [if_neg m] at q
  rw [if_neg fun z=>by
   rcases hnew a z with z | z
   ·exact m z
   ·rw [q] at z;cases z]
  exact keep a ob q
theorem MuOk.none {h:Heap} (M:MuOk C Mu h) {a:Addr} (ha:h.get? a=none):Mu a=false:=by
 cases q:Mu a with
 | false=>rfl
 | true=>obtain ⟨_,ob,e,_⟩:=M a q;rw [ha] at e;exact nos e
theorem cS7 {params:List Str} {sc:Scope} {env:Env} {Mv:Addr→Bool} {h':Heap} {tk:Nat} {vs:List Value} {ds:List D} (fns:FnsOk C lev Γ) (kit:Kit C) (hsc:ScopeIs ns params sc)
  (R:RoomL (lev+1) A) (S:SOk C s) (M:MuOk C Mu s.heap) (r:RdL C (Fz s.heap Mu) vs ds) (hlen:ds.length=params.length) (htk:0 < tk)
  (hs:env.scope=sc) (eo:EnvOk env) (F:FrameIs Mv env h') (MM:MuOk C Mv h') (hv:∀ p∈params.zip vs,HasVar env h' p.1 p.2) (can:∀ x,(sc.names.lookup x=some .local∨sc.names.lookup x=some .cell)→aE7 env x)
  (hsub:∀ a,Mu a=true→Mv a=true) (hnew:∀ a,Mv a=true→Mu a=true∨s.heap.get? a=none) (hL:s.heap.get? env.locals=none) (hc:∀ x c,env.cells.lookup x=some c→s.heap.get? c=none)
  (keep:∀ b o,s.heap.get? b=some o→h'.get? b=some o) (ht:s.toks≤tk) :
  Frm C lev Γ ns (A.deeper env) env s Mu (ro0 0 ds) (fun a=>Mv a&&!Mu a) Mv (fun _=>0) { s with heap:=h',toks:=tk }:=by
 have g:Go C s { s with heap:=h',toks:=tk }:=.keep keep
 have RL:RoomL lev (A.deeper env):=⟨R.handled,by have:=R.depth;show A.depth+1+_ < _;exact eU6 this,by have:=R.units;show A.units+3+300+_ < _;lia⟩
 have dat:∀ {i:Nat} {lv:LV},(ro0 0 ds).lookup i=some lv→∃ d,ds[i]?=some d∧lv=.dat d:=fun {i lv} h=>by
  obtain ⟨_,d',h2,h3⟩:=cA2 ds 0 i lv h;exact ⟨d',h2,h3⟩
 refine ⟨fns,kit,RL,S,M,S.go g,htk,eo,MM,F,hsc.nd,?_,fun a h=>(Bool.and_eq_true_iff.mp h).1,fun a h=>?_,⟨?_,fun x c q=>?_⟩,fun i d h=>?_,fun i j d e n h=>?_,g,ht,hsub,fun i x hx hv=>can x (hsc.vis (hs ▸ hv))⟩
 ·intro i x lv hx hl hvis
  obtain ⟨d',hd',rfl⟩:=dat hl
  obtain ⟨v,hvi,rv⟩:=r.get hd'
  have hi:i < params.length:=hlen ▸ (List.getElem?_eq_some_iff.mp hd').1
  have hx':params[i]?=some x:=by
   have q:(ns.take params.length)[i]?=some x:=by rw [List.getElem?_take,if_pos hi];exact hx
   rw [hsc.take] at q;exact q
  exact ⟨v,hv _ (cL2 hx' hvi),rv.mono (dQ9 hnew keep)⟩
 ·obtain ⟨h1,h2⟩:=Bool.and_eq_true_iff.mp h
  rcases hnew a h1 with z | z
  ·rw [z] at h2;exact noB h2
  ·exact z
 ·show (Mv env.locals&&!Mu env.locals)=true
  rw [F.muL,M.none hL];rfl
 ·show (Mv c&&!Mu c)=true
  rw [F.muC x c q,M.none (hc x c q)];rfl
 ·obtain ⟨_,_,e⟩:=dat h;cases e
 ·obtain ⟨_,_,e⟩:=dat h;cases e
theorem bG4 {A':Around} {params:List Str} {sc:Scope} {qual:Str} {func:Option Addr} {code:Value} {vs:List Value} {ds:List D} (fns:FnsOk C lev Γ) (kit:Kit C) (hsc:ScopeIs ns params sc) (R:RoomL (lev+1) A) (S:SOk C s) (M:MuOk C Mu s.heap) (r:RdL C (Fz s.heap Mu) vs ds)
  (hlen:ds.length=params.length) (htk:0 < s.toks∨(params≠[]∧∀ x∈params,sc.names.lookup x=some .local)) {Q:Env→Shared→Prop} {E:Value→Shared→Prop}
  (h:∀ env Mv h' tk,env.scope=sc→env.frame=some env.locals→env.code=code→Frm C lev Γ ns (A.deeper env) env s Mu (ro0 0 ds) (fun a=>Mv a&&!Mu a) Mv (fun _=>0) { s with heap:=h',toks:=tk }→Q env { s with heap:=h',toks:=tk }) :
  wpAny (model C.prog C.w) A' (newFunctionEnv sc mainGlobals [] (params.zip vs) qual func code none builtinsNs) Q E s:=by
 have zmap:(params.zip vs).map (·.1)=params:=List.map_fst_zip (Nat.le_of_eq (hlen.symm.trans r.length.symm))
 have zin:∀ p∈params.zip vs,p.1∈params:=fun p hp=>zmap ▸ List.mem_map_of_mem hp
 refine cS6 (C:=C) hsc.kind hsc.dist hsc.kinds M (let ⟨o,e,_⟩:=C.tabNone _ S.tab;⟨o,e⟩) (fun p hp=>hsc.pars p.1 (zin p hp)) (zmap.symm ▸ hsc.ndP) fun env Mv h' tk hs eo hef F MM hv can hsub hnew hL hc keep ⟨ht,htl⟩ =>
  h env Mv h' tk hs hef.1 hef.2.1 (cS7 fns kit hsc R S M r hlen ?_ hs eo F MM hv can hsub hnew hL hc keep ht)
 rcases htk with z | ⟨z1,z2⟩
 ·exact aM7 z ht
 ·exact aL3 (Nat.zero_le _) (htl (fun p hp=>z2 p.1 (zin p hp)) fun z=>z1 (by rw [← zmap,z];rfl))
theorem eE1 {fa:Addr} {params:List Str} {body:List Stmt} {sc:Scope} {is:ISs} (fns:FnsOk C lev Γ) (kit:Kit C) (D:DefIs C fa params body sc) (hsc:ScopeIs ns params sc) (hmt:Xks C lev Γ ns is sc body):CallOk C (lev+1) fa (bP0 params.length Γ is):=by
 intro A Mu s vs ds d R S htok M r hg Res K
 refine hid fun Gz zz=>?_
 obtain ⟨⟨o,fd,e1,e2,rfl,e4,e5,e6,e7,e8,e9⟩,co,gen⟩:=D
 refine zz ?_;clear zz Gz
 refine Al.ite (T:=fun d=>(∀ v s',Go C s s'→Rd C (Fz s'.heap Mu) v d→Res (.ok (.ret v)) s')→codeAny (model C.prog C.w) A (.call (.ref fa) ⟨vs,[]⟩) Res s) (fun hlen=>Al.bind fun out hrun d hout K=>?_) d hg K
 refine codeAny_call_function (by have:=R.depth;exact bH6 this) (S.top.kin fa o e1) e2 co gen e4 (codeRec_of S.top.kin e8) ?_
 rw [e9 vs (r.length.trans hlen),e5,e6,e7]
 refine wpAny_pure (bG4 fns kit hsc R S M r hlen (.inl htok) fun env Mv h' tk hs hf _ F=>⟨F.ok.top.nolimit,codeAny_func (hmt F hs _ hrun _ _ ?_)⟩)
 cases out with
 | next ρ=>exact nos hout
 | brk ρ=>exact nos hout
 | ret x=>obtain rfl:=Option.some.inj hout;exact fun v s' g' _ rv=>K v s' g' rv
end
end Mine
end
section
open PySem PySem.W PyProof.Rows PySem.Calls PySem.Spec
set_option autoImplicit false
set_option maxRecDepth 4000
namespace Mine
noncomputable def bB3 (K:Frag) (fa:Addr) (vs:List Value):Sem (List (Str × Value)):=match K.lookup fa with
 | some o=>(match o.data with | .func fd=>bindArgs fd ⟨vs,[]⟩ | _=>pure [])
 | none=>pure []
theorem bG7 {K:Frag} {fa:Addr} {o:Obj} {fd:FuncData} (h1:K.lookup fa=some o) (h2:o.data=.func fd) (vs:List Value):bB3 K fa vs=bindArgs fd ⟨vs,[]⟩:=by
 unfold bB3
 rw [h1]
 dsimp only
 rw [h2]
noncomputable def aY7 (K:Frag) (fa:Addr) (params:List Str):Prop:=∀ vs:List Value,vs.length=params.length→bB3 K fa vs=pure (params.zip vs)
theorem bB2 {K:Frag} {fa:Addr} {x:Str} (h:∀ a,bB3 K fa [a]=pure [(x,a)]):aY7 K fa [x]:=fun vs hl=>by
 obtain ⟨a,rfl⟩:=List.length_eq_one_iff.mp hl
 exact h a
theorem bB1 {K:Frag} {fa:Addr} {x y:Str} (h:∀ a b,bB3 K fa [a,b]=pure [(x,a),(y,b)]):aY7 K fa [x,y]:=fun vs hl=>by
 cases vs with
 | nil=>cases hl
 | cons a vs =>
  obtain ⟨b,rfl⟩:=List.length_eq_one_iff.mp (Nat.succ.inj hl)
  exact h a b
theorem cD0 {K:Frag} {fa:Addr} {x y z:Str} (h:∀ a b c,bB3 K fa [a,b,c]=pure [(x,a),(y,b),(z,c)]):aY7 K fa [x,y,z]:=fun vs hl=>by
 cases vs with
 | nil=>cases hl
 | cons a vs=>cases vs with
  | nil=>cases hl
  | cons b vs =>
   obtain ⟨c,rfl⟩:=List.length_eq_one_iff.mp (Nat.succ.inj (Nat.succ.inj hl))
   exact h a b c
noncomputable def dS1 (K:Frag) (fd:FuncData) (ns params:List Str):Bool :=
 bL4 ns params fd.scope&&fd.closure.isEmpty&&(fd.globals == mainGlobals)&&(fd.builtins == builtinsNs)&&codeIn K fd.code fd.qualname&&!fd.scope.isCoroutine&&!fd.scope.isGenerator
theorem dE6 {C:Cfg} {fa:Addr} {fd:FuncData} {o:Obj} {ns params:List Str} {b:List Stmt} (hb':aY7 C.K fa params) (ho:C.K.lookup fa=some o) (hd:o.data=.func fd) (hb:fd.body=.stmts b) (h:dS1 C.K fd ns params=true):DefIs C fa params b fd.scope∧ScopeIs ns params fd.scope:=by
 simp only [dS1,Bool.and_eq_true,Bool.not_eq_true',beq_iff_eq] at h
 exact ⟨⟨⟨o,fd,ho,hd,rfl,hb,List.isEmpty_iff.mp h.1.1.1.1.1.2,h.1.1.1.1.2,h.1.1.1.2,h.1.1.2,fun vs hl=>(bG7 ho hd vs).symm.trans (hb' vs hl)⟩,h.1.2,h.2⟩,bZ9 h.1.1.1.1.1.1⟩
noncomputable def cW4 {p:Prop} (z:Data) (k:∀ fd,z=.func fd→Chk p):Chk p:=match z,k with
 | .func fd,k=>k fd rfl
 | _,_=>no
noncomputable def bY3 {p:Prop} (z:FuncBody) (k:∀ b,z=.stmts b→Chk p):Chk p:=match z,k with
 | .stmts b,k=>k b rfl
 | _,_=>no
noncomputable def eQ5 (C:Cfg) (fa:Addr) (ns params:List Str) (P:Scope→List Stmt→Prop):Prop:=∃ b sc,aY7 C.K fa params→DefIs C fa params b sc∧ScopeIs ns params sc∧P sc b
noncomputable def eC7 (C:Cfg) (fa:Addr) (ns params:List Str) {P:Scope→List Stmt→Prop} (k:∀ sc b,Chk (P sc b)):Chk (eQ5 C fa ns params P) :=
 bY4 (C.K.lookup fa) fun o ho=>cW4 o.data fun fd hd=>bY3 fd.body fun b hb=>chB (dS1 C.K fd ns params) fun h=>(k fd.scope b).bind fun hk=>yes ⟨b,fd.scope,fun hp=>have q:=dE6 hp ho hd hb h;⟨q.1,q.2,hk⟩⟩
theorem aH4 {C:Cfg} {lev:Nat} {Γ:List Fn} {ns params:List Str} {fa:Addr} {is:ISs} (fns:FnsOk C lev Γ) (kit:Kit C) (hp:aY7 C.K fa params) (h:(eC7 C fa ns params (eO7 C lev Γ ns is)).ok=true):CallOk C (lev+1) fa (bP0 params.length Γ is):=by
 refine hid fun Gz zz=>?_
 obtain ⟨_,_,D⟩:=Chk.of _ h
 obtain ⟨D,S,hk⟩:=D hp
 refine zz ?_;clear zz Gz
 exact eE1 fns kit D S hk
end Mine
end
section
open PySem PySem.W PyProof.Rows PySem.Calls PySem.Spec
open Sem (wp)
set_option autoImplicit false
set_option maxRecDepth 100000
namespace Mine
section
variable {prog:Program} {w:World} {A:Around} {E:Value→Shared→Prop} {s:Shared}
theorem cJ1 {R:Result→Shared→Prop} {body:List Stmt} {env:Env}
  (h:wpN (model prog w) (A.deeper env) (execs body env) (fun f s'=>R (.ok (.ret (match f with | .ret v=>v | _=>.none))) s')
   (fun e s'=>wpAny (model prog w) (A.deeper env) (leaving env e) (fun _ s''=>R (.error e) s'') (fun e' s''=>R (.error e') s'') s') s) :
  codeN (model prog w) A (.func body env) R s:=by
 refine aE5 rfl ?_
 show wpN _ (A.deeper env) (do point;match ← (execs body env).onRaise (leaving env) with | .ret v=>ret v | _=>ret .none) _ _ s
 refine aA7 (wpAny_point (aG7 (aV2 (aL2 h (fun f s' h'=>?_) fun _ _ h'=>h'))))
 cases f<;>exact aD4 h'
theorem aW1 {R:Result→Shared→Prop} {a:Addr} {args:Args} {o:Obj} {fd:FuncData} {body:List Stmt} (hroom:A.depth < recursionLimit)
  (ho:s.heap.get? a=some o)
  (hd':o.data=.func fd) (hco:fd.scope.isCoroutine=false) (hgen:fd.scope.isGenerator=false) (hbody:fd.body=.stmts body) (hcd:s.heap.CodeRec fd.code fd.qualname)
  (h:wpAny (model prog w) A.in1 (bindArgs fd args) (fun binds aa =>
   wpAny (model prog w) A.in1 (newFunctionEnv fd.scope fd.globals fd.closure binds (fd.qualname++".<locals>.") (some a) fd.code none fd.builtins)
    (fun env ai=>ai.heap.NoLimit∧codeN (model prog w) A (.func body env) R ai) (fun e s'=>R (.error e) s') aa) (fun e s'=>R (.error e) s') s) :
  codeN (model prog w) A (.call (.ref a) args) R s:=by
 refine aE5 rfl ?_
 show wpN _ A.in1 (callAny (.ref a) args) _ _ s
 refine aA7 (wpAny_load ho ?_)
 refine hid fun Gz zz=>?_
 obtain ⟨c,oc,vs,tq,hc,hoc,hdc,hq⟩:=hcd
 refine zz ?_;clear zz Gz
 rw [hd']
 dsimp only [callFunction]
 rw [hc] at h ⊢
 rw [hbody,hgen,hco]
 refine aA7 (m:=field (.ref c) 1) (wpAny_field hoc hdc hq (aA7 (wpAny_pure ?_)))
 exact aA7 (wpAny_mono h (fun binds aa av=>aA7 (wpAny_mono av (fun env ai aL=>aA7 (wpAny_enterFrame aL.1 hroom
  (aD4 (And.intro rfl aL.2)))) fun _ _ h'=>h')) fun _ _ h'=>h')
theorem aU8 {st:Stmt} {rest:List Stmt} {env:Env} {Q:Flow→Shared→Prop}
  (h:wpN (model prog w) A (exec st env) (fun f s'=>match f with | .next=>wpN (model prog w) A (execs rest env) Q E s' | f=>Q f s') E s):wpN (model prog w) A (execs (st::rest) env) Q E s:=fun Γ p bl h1 h2=>by
 rw [execs_cons,Sem.wp_bind']
 refine Sem.wp_mono _ Γ _ (fun f p' s' h'=>?_) (fun _ _ _ h'=>h') _ _ (h Γ p bl h1 h2)
 cases f<;>first | exact h' Γ p' bl h1 h2 | exact h'
end
end Mine
end
section
open PySem PySem.W PyProof.Rows PySem.Calls PySem.Spec
open Sem (wp)
set_option autoImplicit false
set_option maxRecDepth 100000
namespace Mine
namespace BAr
theorem mro:mroOf (.type "bytearray")=pure [.type "bytearray",.type "object"]:=by rw [mroOf_type];kernel_rfl
theorem aZ5:typeLookup (.type "bytearray") "__new__"=pure (some (.builtin "bytearray.__new__")):=by rw [typeLookup_type,builtinLookup_eq_fast];kernel_rfl
theorem bD6:Slot "bytearray" "__init__" "bytearray.__init__" :=
 .of (owner:="bytearray") (n:="__init__") (by rw [typeLookup_type,builtinLookup_eq_fast];kernel_rfl) (by decide +kernel) (by decide +kernel) (by decide +kernel)
  (by first | exact .inl (by decide +kernel) | exact .inr (by decide +kernel)) (by rw [isSubtype_type];kernel_rfl)
theorem called:TypeCalled "bytearray" "bytearray.__new__" "bytearray.__init__" :=
 ⟨by decide +kernel,by decide +kernel,⟨_,_,mro⟩,madeBy_type mro aZ5 (by decide +kernel),by decide +kernel,by rw [isSubtype_type];kernel_rfl,bD6⟩
theorem cE7 (a:Value):checkTypeCall "bytearray" ⟨[a],[]⟩=pure ():=by kernel_rfl
theorem cQ9 (a:Value):checkBuiltinCall "bytearray.__new__" ⟨[.type "bytearray",a],[]⟩=pure ():=by kernel_rfl
theorem bG2:entryFor table "bytearray.__new__"=some Builtin.«list.__new__» :=
 entryFor_alias (id':="list.__new__") (by kernel_rfl) (by first | rfl | decide +kernel | (unfold String.splitOn;simp +decide [String.splitOnAux])) (by decide +kernel) (by kernel_rfl)
theorem cI8:entryFor table "bytearray.__init__"=some Builtin.«bytearray.__init__»:=by first | exact entryFor_of_fast (by kernel_rfl) | exact entryFor_of_tree (by kernel_rfl)
theorem bR3:plainId "bytearray.__new__"=true:=by decide +kernel
theorem bY5 (a b:Value):argsOk "bytearray.__init__" ⟨[a,b],[]⟩:=by unfold argsOk;kernel_rfl
set_option maxRecDepth 1000000 in
set_option maxHeartbeats 4000000 in
theorem cP8:("bytearray.__new__".splitOn ".__new__").headD ""="bytearray":=by rw [PySem.W.splitQ_eq];kernel_rfl
section
variable {prog:Program} {w:World} {A:Around} {E:Value→Shared→Prop} {s:Shared}
theorem dF9 (a:Value) {Q₁:Value→Shared→Prop}
  (h:Q₁ (.ref s.heap.objs.size) { s with heap:=s.heap.push (aJ5 #[]) }) :
  codeAny (model prog w) A (.call (.builtin "bytearray.__new__") ⟨[.type "bytearray",a],[]⟩) (wants Q₁ E) s:=by
 refine codeAny_of_tree ?_
 show wpAny _ A.in1 (do checkBuiltinCall "bytearray.__new__" ⟨[.type "bytearray",a],[]⟩;again (.builtin "bytearray.__new__" ⟨[.type "bytearray",a],[]⟩)) _ _ s
 refine wpAny_bind (wpAny_of_eq (cQ9 a) (wpAny_pure ⟨plainId_quiet bR3 _,codeAny_builtin_stack bG2 rfl fun p st=>?_⟩))
 rw [Around.under_plainId bR3 _]
 have hsub:=sub_self
 have hown:=cP8
 obtain ⟨hp,g,d,tk,os⟩:=s
 simp only [hown]
 wp_walk
 exact h
theorem cS3 {args:Args}:calm (.builtin "bytearray.__init__" args)=true:=by
 show (("bytearray.__init__" == "claim.caller") || ("bytearray.__init__" == "type.__call__") || ("bytearray.__init__" == "bytearray.__init__") || ("bytearray.__init__" == "int.__new__"))=true
 decide +kernel
theorem bP6 {args:Args}:calm (.builtin "type.__call__" args)=true:=by
 show (("type.__call__" == "claim.caller") || ("type.__call__" == "type.__call__") || ("type.__call__" == "bytearray.__init__") || ("type.__call__" == "int.__new__"))=true
 decide +kernel
theorem aB3 {α:Type} {M:Model} {c:Bool} {a b:Sem α} {Q:α→Shared→Prop} (hc:c=false) (h:wpN M A b Q E s):wpN M A (if c=true then a else b) Q E s:=by
 subst hc;exact h
theorem aV3 {α:Type} {M:Model} {c:Bool} {a b:Sem α} {Q:α→Shared→Prop} (hc:c=true) (h:wpN M A a Q E s):wpN M A (if c=true then a else b) Q E s:=by
 subst hc;exact h
theorem cM0 {α:Type} {M:Model} {c:Prop} [Decidable c] {a b:Sem α} {Q:α→Shared→Prop} (hc:¬ c) (h:wpN M A b Q E s):wpN M A (if c then a else b) Q E s:=by
 rw [if_neg hc];exact h
theorem cL8 {α:Type} {M:Model} {c:Prop} [Decidable c] {a b:Sem α} {Q:α→Shared→Prop} (hc:c) (h:wpN M A a Q E s):wpN M A (if c then a else b) Q E s:=by
 rw [if_pos hc];exact h
theorem aG1 {α β:Type} {M:Model} {m:Sem α} {f:α→Sem β} {x:α} {Q:β→Shared→Prop} (e:m=pure x) (h:wpN M A (f x) Q E s):wpN M A (m >>= f) Q E s:=aA7 (wpAny_of_eq e h)
theorem eE8 {f:Value} {args:Args}:calm (.call f args)=true:=rfl
theorem aY6 {id:String} {args:Args} {b:Builtin} {R:Result→Shared→Prop} (hq:plainId id=true) (hb:entryFor table id=some b) (hc:calm (.builtin id args)=true)
  (h:wpAny (model prog w) A.in1 (checkBuiltinCall id args) (fun _ aa=>wpN (model prog w) A.in1 (b args)
   (fun fin s'=>match fin with | .done f=>R (.ok f) s' | .again c'=>c'.quiet=true∧codeN (model prog w) A c' R s') (fun e s'=>R (.error e) s') aa)
   (fun e s'=>R (.error e) s') s):codeN (model prog w) A (.call (.builtin id) args) R s:=by
 refine aE5 rfl ?_
 show wpN _ A.in1 (do checkBuiltinCall id args;again (.builtin id args)) _ _ s
 refine aA7 (wpAny_mono h (fun _ aa av=>aD4 (And.intro (plainId_quiet hq args) (aE5 hc ?_))) fun _ _ h'=>h')
 show wpN _ _ (match entryFor table id with | some b=>b args | none=>unsupported ((withoutEnding? id "#data").getD id)) _ _ aa
 rw [hb,Around.under_plainId hq args];exact av
theorem aY5 {id:String} {args:Args} {b:Builtin} {R:Result→Shared→Prop} (hb:entryFor table id=some b) (hc:calm (.builtin id args)=true)
  (h:wpN (model prog w) (A.under (.builtin id args)) (b args)
   (fun fin s'=>match fin with | .done f=>R (.ok f) s' | .again c'=>c'.quiet=true∧codeN (model prog w) A c' R s') (fun e s'=>R (.error e) s') s) :
  codeN (model prog w) A (.builtin id args) R s:=by
 refine aE5 hc ?_
 show wpN _ _ (match entryFor table id with | some b=>b args | none=>unsupported ((withoutEnding? id "#data").getD id)) _ _ s
 rw [hb];exact h
theorem cJ8 {args:List Value} {Q Q₁:Value→Shared→Prop}
  (hct:checkTypeCall "bytearray" ⟨args,[]⟩=pure ())
  (hnew:codeAny (model prog w) A.in1 (.call (.builtin "bytearray.__new__") ⟨.type "bytearray"::args,[]⟩) (wants Q₁ E) s)
  (hnext:∀ obj aa,Q₁ obj aa→aa.TypeIs obj "bytearray"∧argsOk "bytearray.__init__" ⟨obj::args,[]⟩ ∧
   wpN (model prog w) A.in1.in1 (Builtin.«bytearray.__init__» ⟨obj::args,[]⟩)
    (fun fin s'=>match fin with | .done f=>wants (fun r ai=>r=.none∧Q obj ai) E (.ok f) s' | .again c'=>c'.quiet=true∧codeN (model prog w) A.in1 c' (wants (fun r ai=>r=.none∧Q obj ai) E) s')
    (fun e s'=>wants (fun r ai=>r=.none∧Q obj ai) E (.error e) s') aa) :
  wpN (model prog w) A (call (.type "bytearray") args) Q E s:=by
 refine aT4 (aE5 rfl ?_)
 show wpN _ _ (callAny (.type "bytearray") _) _ _ _
 refine aD4 ⟨Code.quiet_builtin _ (by decide +kernel),aY5 PySem.F.entry_type_call bP6 ?_⟩
 rw [Around.under_plain (weight_type_call_type "bytearray" args []) rfl]
 dsimp only [Builtin.«type.__call__»]
 refine aB3 (called.notType) ?_
 refine aB3 (called.canCreate) ?_
 refine aG1 hct ?_
 refine aG1 mro ?_
 refine aB3 rfl ?_
 refine aG1 called.made ?_
 refine aG1 (x:=Value.builtin "bytearray.__new__") rfl ?_
 refine aA7 (wpAny_holding (wpAny_call (codeAny_mono hnew fun r aa hr=>?_)))
 cases r with
 | error e=>exact hr
 | ok fl =>
  cases fl with
  | ret obj =>
   obtain ⟨hT,hok,hsi⟩:=hnext _ _ hr
   refine aA7 (wpAny_isInstance hT called.sub ?_)
   refine aB3 rfl ?_
   refine aG7 (aV4 ?_)
   refine aA7 (wpAny_specialOf hT called.init.lookup ?_)
   dsimp only
   rw [called.init.bind]
   refine aV4 (aG1 rfl (aG7 (aT4 (bK8 (aY6 called.init.plain cI8 cS3 (called.init.check _ _ _ _ _ _ _ _ hT hok hsi)) fun bw ai cV=>?_))))
   cases bw with
   | error e=>exact cV
   | ok eF =>
    cases eF with
    | ret r =>
     obtain ⟨rfl,hq⟩:=cV
     refine aD4 ?_
     refine aB3 rfl ?_
     exact aD4 hq
    | _=>exact cV.elim
  | _=>exact hr.elim
noncomputable def aY0 (self:Value):Code × Pos→Bool
  | (.builtin "bytearray.__contains__" ⟨v::_,_⟩,_) | (.builtin "bytearray.__mod__" ⟨v::_,_⟩,_)
  | (.builtin "bytearray.__rmod__" ⟨_::v::_,_⟩,_) | (.builtin "_struct.pack_into.held" ⟨v::_,_⟩,_)=>Builtin.Bytes.sameRef v self
  | (.builtin "bytearray.find.held" ⟨_::_::held,_⟩,_)=>held.any (Builtin.Bytes.sameRef self)
  | (.builtin id ⟨v::_,_⟩,_)=>Builtin.Bytes.sameRef v self&&Builtin.Bytes.decodersThatHold.contains id
  | _=>false
theorem bX7 (self:Value):Builtin.Bytes.exported self=(stack >>= fun l=>pure (l.any (aY0 self))):=rfl
theorem dE5 {self:Value} {id:String} (args:Args) (p:Pos) (h:(id="claim.caller"∨id="type.__call__")∨id="bytearray.__init__"∨id="int.__new__"):aY0 self (.builtin id args,p)=false:=by
 obtain ⟨as,kw⟩:=args
 rcases h with (rfl | rfl) | rfl | rfl
 ·cases as with
  | nil=>kernel_rfl
  | cons v as=>exact (by kernel_rfl:aY0 self (.builtin "claim.caller" ⟨v::as,kw⟩,p)=(Builtin.Bytes.sameRef v self&&false)).trans (Bool.and_false _)
 ·cases as with
  | nil=>kernel_rfl
  | cons v as=>exact (by kernel_rfl:aY0 self (.builtin "type.__call__" ⟨v::as,kw⟩,p)=(Builtin.Bytes.sameRef v self&&false)).trans (Bool.and_false _)
 ·cases as with
  | nil=>kernel_rfl
  | cons v as=>exact (by kernel_rfl:aY0 self (.builtin "bytearray.__init__" ⟨v::as,kw⟩,p)=(Builtin.Bytes.sameRef v self&&false)).trans (Bool.and_false _)
 ·cases as with
  | nil=>kernel_rfl
  | cons v as=>exact (by kernel_rfl:aY0 self (.builtin "int.__new__" ⟨v::as,kw⟩,p)=(Builtin.Bytes.sameRef v self&&false)).trans (Bool.and_false _)
theorem bF3 {self:Value} {c:Code} {p:Pos} (h:calm c=true):aY0 self (c,p)=false:=by
 cases c with
 | builtin id args =>
  have h':((id == "claim.caller") || (id == "type.__call__") || (id == "bytearray.__init__") || (id == "int.__new__"))=true:=h
  rw [Bool.or_eq_true,Bool.or_eq_true,Bool.or_eq_true,beq_iff_eq,beq_iff_eq,beq_iff_eq,beq_iff_eq,or_assoc] at h'
  exact dE5 args p h'
 | _=>rfl
theorem cI5 {l:Addr} {Q:Bool→Shared→Prop} (h:Q false s):wpN (model prog w) A (Builtin.Bytes.exported (.ref l)) Q E s:=by
 intro Γ p bl h1 h2
 rw [bX7]
 have e:((Γ.code,p)::Γ.below).any (aY0 (.ref l))=false:=by
  rw [List.any_eq_false]
  intro x hx
  rcases List.mem_cons.mp hx with rfl | hx
  ·rw [bF3 h1];decide
  ·rw [show x=(x.1,x.2) from rfl,bF3 (h2.1 x hx)];decide
 show Q (((Γ.code,p)::Γ.below).any (aY0 (.ref l))) s
 rw [e];exact h
theorem bV7 {n:Nat} (h:n≤1000):Builtin.Bytes.tooLong n=false:=by
 unfold Builtin.Bytes.tooLong
 rw [sizeLine_eq]
 exact decide_eq_false (bQ9 (aA9 h (cl rfl)))
theorem new_N {n:Int} {t:Tok} {Q:Value→Shared→Prop} (hn:0≤n∧n≤1000)
  (h:∀ h' tk,(∀ b o,s.heap.get? b=some o→h'.get? b=some o)→s.toks≤tk→h'.get? s.heap.objs.size=some (aJ5 (List.replicate n.toNat 0).toArray)→Q (.ref s.heap.objs.size) { s with heap:=h',toks:=tk }) :
  wpN (model prog w) A (call (.type "bytearray") [.int n t]) Q E s:=by
 refine cJ8 (Q₁:=fun obj aa=>obj=.ref s.heap.objs.size∧aa={ s with heap:=s.heap.push (aJ5 #[]) }) (cE7 _) (dF9 _ ⟨rfl,rfl⟩) ?_
 rintro obj aa ⟨rfl,rfl⟩
 have hb:(s.heap.push (aJ5 #[])).get? s.heap.objs.size=some (aJ5 #[]):=Heap.get?_push_size _ rfl
 refine ⟨⟨_,hb,rfl⟩,bY5 _ _,?_⟩
 unfold Builtin.«bytearray.__init__»
 refine aA7 (bE1 hb ?_)
 refine aB3 rfl ?_
 refine aG1 (x:=[some (.int n t),none,none]) rfl ?_
 refine aG1 (x:=()) rfl ?_
 refine aG1 (x:=()) rfl ?_
 refine aG7 (aG7 (cI5 ?_))
 refine aB3 (a:=pure true) rfl ?_
 refine aA7 (wpAny_bind (wpAny_load hb (wpAny_pure ?_)))
 refine aD4 ?_
 refine aB3 rfl ?_
 refine aA7 (write_ok hb (by simp) fun av a8 du=>?_)
 refine aG1 (x:=none) rfl ?_
 refine aB3 rfl ?_
 refine aG1 (x:=()) rfl ?_
 refine aA7 (wpAny_specialOf (T:="int") (typeIs_int _ n t) int_index ?_)
 refine aV3 rfl ?_
 refine aG1 (x:=.ok n) rfl ?_
 refine aB3 ((cT0 hn.1 (bB8 hn.2 (by decide))) ▸ rfl) ?_
 refine cM0 (c:=n < 0) (dR9 hn.1) ?_
 refine aB3 (c:=n == 2 ^ 63 - 1) (by simp;lia) ?_
 refine aB3 (c:=Builtin.Bytes.tooLong n.toNat) (bV7 (eP5 hn.2)) ?_
 refine aA7 (wpAny_rule ?_)
 have keep:∀ b o,s.heap.get? b=some o→av.get? b=some o:=fun b o q=>a8 b o (Nat.ne_of_lt (Heap.lt_size q)) (Heap.get?_push_of_some _ q)
 by_cases h0:n > 0
 ·refine cL8 (c:=n > 0) h0 ?_
  refine aA7 (write_ok (s:={ s with heap:=av }) du (by simp;exact hn.2) fun aL cf eG=>?_)
  refine aD4 ⟨rfl,?_⟩
  exact h aL s.toks (fun b o q=>cf b o (Nat.ne_of_lt (Heap.lt_size q)) (keep b o q)) (Nat.le_refl _) (eG)
 ·refine cM0 (c:=n > 0) h0 ?_
  refine aD4 ⟨rfl,?_⟩
  have:n=0:=by lia
  subst this
  exact h av s.toks keep (Nat.le_refl _) du
end
end BAr
end Mine
end
section
open PySem PySem.W PyProof.Rows PySem.Calls PySem.Spec
open Sem (wp)
set_option autoImplicit false
set_option maxRecDepth 4000
namespace Mine
section
variable {M:Model} {A:Around} {E:Value→Shared→Prop} {s:Shared} {env:Env}
theorem cY3 {α:Type} {vs:List Value} {m:Sem α} {Q:α→Shared→Prop} (h:wpN M A m Q E s):wpN M A (m.keep vs) Q E s :=
 fun Γ p bl h1 h2=>by rw [Sem.wp_keep];exact h Γ p bl h1 h2
theorem dN1 {t:Sem Value} {Q:Value→Shared→Prop} (h:wpN M A t Q E s):wpN M A (t >>= fun r=>holding [r] point >>= fun _=>pure r) Q E s :=
 aG7 (aL2 h (fun r ai hr=>aA7 (wpAny_holding (wpAny_point (aD4 hr)))) fun _ _ x=>x)
theorem bU2 {pos:Pos} {a:Addr} {o:Obj} {fd:FuncData} {first:List Value} {args:List (Bool × Sem Value)} {Q:Value→Shared→Prop} (hp:args.any (·.1)=false)
  (h:wpAny M A (evalArgs (.ref a) true args []) (fun x aa=>(aa.heap.get? a=some o∧o.data=.func fd)∧wpN M A (call (.ref a) (first++x.pos) x.kw) Q E aa) E s) :
  wpN M A (callWith pos (.ref a) first args []) Q E s:=by
 dsimp only [callWith]
 refine aA7 (wpAny_holding (wpAny_mono h (fun x aa av=>aA7 (wpAny_standAt ?_)) fun _ _ x=>x))
 rw [hp]
 refine aA7 (m:=keeperOf (.ref a)) ?_
 dsimp only [keeperOf]
 refine wpAny_bind (wpAny_load av.1.1 ?_)
 rw [av.1.2]
 refine wpAny_pure ?_
 by_cases hc:args.length+2*0 > 30
 ·show wpN M A (if args.length+2*0 > 30 then _ else _) Q E _
  rw [if_pos hc];exact dN1 av.2
 ·show wpN M A (if args.length+2*0 > 30 then _ else _) Q E _
  rw [if_neg hc];exact dN1 (cY3 av.2)
theorem aV1 {pos:Pos} {T:String} {first:List Value} {args:List (Bool × Sem Value)} {Q:Value→Shared→Prop} (hplain:args.any (·.1)=false)
  (h:wpAny M A (evalArgs (.type T) true args []) (fun a aa=>wpN M A (call (.type T) (first++a.pos) a.kw) Q E aa) E s):wpN M A (callWith pos (.type T) first args []) Q E s:=by
 dsimp only [callWith]
 refine aA7 (wpAny_holding (wpAny_mono h (fun a aa av=>aA7 (wpAny_standAt ?_)) fun _ _ x=>x))
 rw [hplain]
 refine aA7 (wpAny_pure ?_)
 exact dN1 av
theorem bA4 {id:Str} {p pos:Pos} {args:List Expr} {Q:Value→Shared→Prop}
  (h:wpAny M A (eval (.Name id p) env) (fun f aa=>wpN M A (callWith pos f [] (backTo pos (starEach args env)) []) Q E aa) E s):wpN M A (eval (.Call (.Name id p) args [] pos) env) Q E s:=by
 show wpN M A (do callWith pos (← eval (.Name id p) env) [] (backTo pos (starEach args env)) (backToKw pos (keywordEach [] env))) Q E s
 exact aA7 h
theorem aT3 {x:Str} {pos':Pos} {value:Expr} {pos:Pos} {Q:Flow→Shared→Prop}
  (h:wpN M A (eval value env) (fun v aa=>wpAny M A (storeName env x v) (fun _=>Q .next) E aa) E s)
  (hs:swapsWith value (some (.Name x pos')) pos.line env=pure false):wpN M A (exec (.Assign [.Name x pos'] value pos) env) Q E s:=fun Γ p bl h1 h2=>by
 simp only [exec_Assign_Name env x pos' value pos hs,Sem.wp_bind',Sem.wp_cmd_standAt,Sem.wp_bindName,Sem.wp_pure']
 exact Sem.wp_mono M Γ _ (fun v _ aa av=>av Γ _ bl) (fun _ _ _ h'=>h') _ _ (h Γ _ bl h1 h2)
theorem bS9 {b:List Stmt} {Γ:PySem.Ctx} {Q:Flow→Pos→Shared→Prop} {X:Value→Pos→Shared→Prop}:∀ (a:List Stmt) (p:Pos) (s:Shared),
  wp M Γ (execs a env) (fun f p' s'=>match f with | .next=>wp M Γ (execs b env) Q X p' s' | f=>Q f p' s') X p s→wp M Γ (execs (a++b) env) Q X p s
 | [],p,s,h=>h
 | st::a,p,s,h=>by
  rw [List.cons_append,execs_cons,Sem.wp_bind']
  rw [execs_cons,Sem.wp_bind'] at h
  refine Sem.wp_mono M Γ _ (fun f p' s' hf=>?_) (fun _ _ _ h'=>h') _ _ h
  cases f with
  | next=>exact bS9 a p' s' hf
  | _=>exact hf
theorem dV7 {a b:List Stmt} {Q:Flow→Shared→Prop} (h:wpN M A (execs a env) (fun f s'=>match f with | .next=>wpN M A (execs b env) Q E s' | f=>Q f s') E s):wpN M A (execs (a++b) env) Q E s:=by
 intro Γ p bl h1 h2
 refine bS9 a p s (Sem.wp_mono M Γ _ (fun f p' s' hf=>?_) (fun _ _ _ h'=>h') _ _ (h Γ p bl h1 h2))
 cases f with
 | next=>exact hf Γ p' bl h1 h2
 | _=>exact hf
end
end Mine
end
section
open PySem PySem.W PyProof.Rows PySem.Calls PySem.Spec
open Sem (wp)
open Heap (SlotsOnly)
set_option autoImplicit false
set_option maxRecDepth 4000
namespace Mine
theorem aZ1:∀ (Ls:List Addr) (h ref:Heap),(∀ b∈Ls,∃ o,h.get? b=some o)→∃ h',SlotsOnly Ls h h'∧∀ b∈Ls,∀ o o',h.get? b=some o→ref.get? b=some o'→h'.get? b=some { o with slots:=o'.slots }
 | [],h,ref,_=>⟨h,.refl _ _,fun _ m=>(List.not_mem_nil m).elim⟩
 | L::r,h,ref,hx=>by
  refine hid fun Gz zz=>?_
  obtain ⟨h1,x1,c1⟩:=aZ1 r h ref fun b m=>hx b (.tail _ m)
  obtain ⟨oL,eL⟩:=hx L (.head _)
  obtain ⟨sl,eL1⟩:=x1.2.2 L oL eL
  refine zz ?_;clear zz Gz
  cases q:ref.get? L with
  | none =>
   refine ⟨h1,x1.mono fun b m=>.tail _ m,fun b m o o' e e'=>?_⟩
   refine hid fun Gz zz=>?_
   rcases List.mem_cons.mp m with rfl | m
   ·refine zz ?_;clear zz Gz
    rw [q] at e';exact nos e'
   ·refine zz ?_;clear zz Gz
    exact c1 b m o o' e e'
  | some oR =>
   have x2:=SlotsOnly.update eL1 (fun _=>oR.slots)
   refine ⟨_,(x1.mono fun b m=>.tail _ m).trans (x2.mono fun b m=>by rw [List.mem_singleton.mp m];exact .head _),fun b m o o' e e'=>?_⟩
   by_cases hb:b=L
   ·subst hb
    rw [eL] at e;cases e
    rw [q] at e';obtain rfl:=Option.some.inj e'
    obtain ⟨sl2,e2⟩:=x2.2.2 b _ eL1
    have hfree:({ oL with slots:=oR.slots }:Obj).isFreed=false:=by
     have hx:=(Heap.get?_some_iff.mp eL).2
     obtain ⟨c,d,dt,s0⟩:=oL
     cases dt<;>first | rfl | (simp [Obj.isFreed] at hx)
    have key:=Heap.get?_update_self (h:=h1) (fun (p:Obj)=>{ p with slots:=oR.slots }) eL1 (by exact hfree)
    exact key
   ·rcases List.mem_cons.mp m with z | m
    ·exact absurd z hb
    ·rw [x2.2.1 b (by simp [hb])]
     exact c1 b m o o' e e'
theorem cC2:∀ (Ls:List Addr) (h:Heap),∃ base:Heap,(∀ b∈Ls,base.get? b=none)∧∀ b,b∉Ls→base.get? b=h.get? b
 | [],h=>⟨h,fun _ m=>(List.not_mem_nil m).elim,fun _ _=>rfl⟩
 | L::r,h=>by
  obtain ⟨b1,x1,x2⟩:=cC2 r h
  refine ⟨b1.update L fun _=>{ cls:=.none,data:=.freed },fun b m=>?_,fun b m=>?_⟩
  ·by_cases hb:L=b
   ·subst hb
    show (match (b1.objs.modify L _)[L]? with | some ⟨_,_,.freed,_⟩=>none | o=>o)=none
    rw [Array.getElem?_modify,if_pos rfl]
    cases b1.objs[L]?<;>rfl
   ·rw [Heap.get?_update_other _ _ hb]
    exact x1 b (by rcases List.mem_cons.mp m with z | m;exact absurd z.symm hb;exact m)
  ·rw [Heap.get?_update_other _ _ (fun z=>m (by rw [← z];exact .head _))]
   exact x2 b fun z=>m (.tail _ z)
noncomputable def frL (fr:List Env):List Addr:=fr.filterMap (·.frame)
noncomputable def FrOk (C:Cfg) (Mu:Addr→Bool) (h:Heap) (fr:List Env):Prop :=
 ∀ e∈fr,e.scope.kind≠.module∧∃ L o,e.frame=some L∧Mu L=true∧C.K.lookup L=none∧h.get? L=some o∧∀ vs,o.data≠.fields vs
theorem FrOk.mem {C:Cfg} {Mu:Addr→Bool} {h:Heap} {fr:List Env} (F:FrOk C Mu h fr) {b:Addr} (m:b∈frL fr):Mu b=true∧C.K.lookup b=none∧∃ o,h.get? b=some o∧∀ vs,o.data≠.fields vs:=by
 refine hid fun Gz zz=>?_
 obtain ⟨e,he,hf⟩:=List.mem_filterMap.mp m
 obtain ⟨_,L,o,h1,h2,h3,h4,h5⟩:=F e he
 refine zz ?_;clear zz Gz
 rw [h1] at hf;obtain rfl:=Option.some.inj hf
 exact ⟨h2,h3,o,h4,h5⟩
theorem FrOk.slots {C:Cfg} {Mu:Addr→Bool} {h h':Heap} {fr:List Env} {S:List Addr} (F:FrOk C Mu h fr) (x:SlotsOnly S h h'):FrOk C Mu h' fr:=fun e he=>by
 obtain ⟨k,L,o,h1,h2,h3,h4,h5⟩:=F e he
 obtain ⟨sl,e'⟩:=x.2.2 L o h4
 exact ⟨k,L,_,h1,h2,h3,e',h5⟩
theorem FrOk.ext {C:Cfg} {Mu:Addr→Bool} {h h':Heap} {fr:List Env} (F:FrOk C Mu h fr) (M:MuOk C Mu h) (x:Ext C.PT h h'):FrOk C Mu h' fr:=fun e he=>by
 obtain ⟨k,L,o,h1,h2,h3,h4,h5⟩:=F e he
 exact ⟨k,L,o,h1,h2,h3,x L o h4 (.inr (M L h2).1),h5⟩
theorem FrOk.sub {C:Cfg} {Mu Mu':Addr→Bool} {h:Heap} {fr:List Env} (F:FrOk C Mu h fr) (hs:∀ a,Mu a=true→Mu' a=true):FrOk C Mu' h fr:=fun e he=>by
 refine hid fun Gz zz=>?_
 obtain ⟨k,L,o,h1,h2,h3,h4,h5⟩:=F e he
 refine zz ?_;clear zz Gz
 exact ⟨k,L,o,h1,hs _ h2,h3,h4,h5⟩
theorem FrOk.fun {C:Cfg} {Mu:Addr→Bool} {h base:Heap}:∀ {fr:List Env},FrOk C Mu h fr→(∀ b∈frL fr,base.get? b=none)→h.FunFrames base fr
 | [],_,_=>trivial
 | e::fr,F,hb=>by
  obtain ⟨k,L,o,h1,h2,h3,h4,h5⟩:=F e (.head _)
  refine ⟨k,⟨L,o,h1,hb L ?_,h4,h5⟩,FrOk.fun (fun e' he'=>F e' (.tail _ he')) fun b m=>hb b ?_⟩
  ·unfold frL;rw [List.filterMap_cons,h1];exact .head _
  ·unfold frL;rw [List.filterMap_cons,h1];exact .tail _ m
section
variable {C:Cfg} {lev:Nat} {Γ:List Fn} {ns fs:List Str} {A:Around} {env:Env} {ah:Shared} {ac:Addr→Bool} {ρ:Ro} {W Mu:Addr→Bool} {ad:Nat→Addr} {s s':Shared}
theorem SOk.slots {S:List Addr} {av:Heap} (O:SOk C s) (x:SlotsOnly S s.heap av) (hk:∀ b∈S,C.K.lookup b=none) (ht:∀ b∈S,∀ o,s.heap.get? b=some o→aL8 o):SOk C { s with heap:=av }:=by
 have u:s.heap.UpToSlots av:=fun b o e _=>x.2.2 b o e
 refine ⟨⟨u.ns O.top.g,let ⟨mb,a,b⟩:=O.top.b;⟨mb,u.ns a,b⟩,let ⟨mc,a,b⟩:=O.top.nolimit;⟨mc,u.ns a,b⟩,fun a o q=>?_,let ⟨bm,ob,a,b,c,d,f⟩:=O.top.bm;let ⟨_,c'⟩:=x.2.2 bm ob c;⟨bm,_,a,b,c',d,f⟩⟩,C.tabMono _ _ (fun b o e c=>?_) O.tab,O.bare⟩
 ·rw [x.2.1 a fun m=>by rw [hk a m] at q;cases q]
  exact O.top.kin a o q
 ·rw [x.2.1 b fun m=>by
   obtain ⟨t1,t2⟩:=ht b m o e
   rcases c with c | c
   ·exact t2 c
   ·exact t1 c]
  exact e
theorem Go.slots {S T:List Addr} {av:Heap} (g:Go C ah s) (x:SlotsOnly T s.heap av) (h1:∀ b∈T,b∈S∨ah.heap.get? b=none) (h3:∀ b∈S,∃ o,ah.heap.get? b=some o∧aL8 o) (tb:C.tab av) :
  ∃ az,SlotsOnly S ah.heap az∧Go C { ah with heap:=az } { s with heap:=av }:=by
 obtain ⟨az,x0,c0⟩:=aZ1 S ah.heap av fun b m=>let ⟨o,e,_⟩:=h3 b m;⟨o,e⟩
 refine ⟨az,x0,fun b o e c=>?_,fun _=>tb,g.os,g.gens⟩
 show av.get? b=some o
 have e':az.get? b=some o:=e
 by_cases m:b∈S
 ·obtain ⟨dN,eH,t⟩:=h3 b m
  have bX:=g.ext b dN eH (.inl t.1)
  obtain ⟨sl,bn⟩:=x.2.2 b dN bX
  have:=c0 b m dN _ eH bn
  rw [e'] at this
  obtain rfl:=Option.some.inj this
  exact bn
 ·rw [x0.2.1 b m] at e'
  rw [x.2.1 b fun m'=>by
   rcases h1 b m' with z | z
   ·exact m z
   ·rw [z] at e';cases e']
  exact g.ext b o e' c
theorem Frm.ready {fr:List Env} {av:Heap} (F:Frm C lev Γ ns A env ah ac ρ W Mu ad s) (O:FrOk C ac ah.heap fr) (x:SlotsOnly (env.locals::frL fr) s.heap av) :
  ∃ az,SlotsOnly (frL fr) ah.heap az∧Frm C lev Γ ns A env { ah with heap:=az } ac ρ W Mu ad { s with heap:=av }:=by
 have off0:ah.heap.get? env.locals=none:=F.wNew _ F.wL.1
 have tS:∀ b∈frL fr,∃ o,ah.heap.get? b=some o∧aL8 o:=fun b m=>by
  obtain ⟨m1,m2,o,e,_⟩:=O.mem m
  obtain ⟨_,o',e',t⟩:=F.mu0 b m1
  exact ⟨o',e',t⟩
 have kL:C.K.lookup env.locals=none:=by
  cases q:C.K.lookup env.locals with
  | none=>rfl
  | some o=>rw [F.ok0.top.kin _ _ q] at off0;exact nos off0.symm
 have kT:∀ b∈env.locals::frL fr,C.K.lookup b=none:=fun b m=>by
  rcases List.mem_cons.mp m with rfl | m
  ·exact kL
  ·exact (O.mem m).2.1
 have muT:∀ b∈env.locals::frL fr,Mu b=true:=fun b m=>by
  rcases List.mem_cons.mp m with rfl | m
  ·exact F.frame.muL
  ·exact F.muSub _ (O.mem m).1
 have tT:∀ b∈env.locals::frL fr,∀ o,s.heap.get? b=some o→aL8 o:=fun b m o e=>by
  obtain ⟨_,o',e',t⟩:=F.mu b (muT b m)
  rw [e] at e';obtain rfl:=Option.some.inj e';exact t
 have ok1:=F.ok.slots x kT tT
 obtain ⟨az,x0,g0⟩:=F.base.slots x (fun b m=>by
  rcases List.mem_cons.mp m with rfl | m
  ·exact .inr off0
  ·exact .inl m) tS ok1.tab
 have ok0:=F.ok0.slots x0 (fun b m=>(O.mem m).2.1) fun b m o e=>by
  obtain ⟨o',e',t⟩:=tS b m
  rw [e] at e';obtain rfl:=Option.some.inj e';exact t
 have u:s.heap.UpToSlots av:=fun b o e _=>x.2.2 b o e
 have view:VLe (Fz s.heap Mu) (Fz av Mu):=fun a o q c=>by
  unfold Fz at q ⊢
  by_cases m:Mu a=true
  ·rw [if_pos m] at q;exact nos q
  ·rw [if_neg m] at q ⊢
   rw [x.2.1 a fun z=>m (muT a z)];exact q
 have cellK:∀ c v,s.heap.IsCell c v→av.IsCell c v:=fun c v ⟨o,e,d⟩=>let ⟨_,e'⟩:=x.2.2 c o e;⟨_,e',d⟩
 have varK:∀ y v,HasVar env s.heap y v→HasVar env av y v:=fun y v H=>by
  rcases H with ⟨k,m,n,q⟩ | ⟨k,c,hc,n⟩
  ·exact .inl ⟨k,m,u.ns n,q⟩
  ·exact .inr ⟨k,c,hc,cellK _ _ n⟩
 refine ⟨az,x0,F.fns,F.kit,F.room,ok0,fun a h=>?_,ok1,F.tok,F.envOk,fun a h=>?_,⟨let ⟨m,n⟩:=F.frame.ns;⟨m,u.ns n⟩,fun y c q=>let ⟨v,n⟩:=F.frame.cell y c q;⟨v,cellK _ _ n⟩,F.frame.muL,F.frame.muC⟩,F.nodup,fun i y lv a b c=>?_,F.wMu,fun a h=>?_,F.wL,F.own,F.ownNe,g0,F.tk,F.muSub,F.can⟩
 ·obtain ⟨c,o,e,t⟩:=F.mu0 a h
  obtain ⟨sl,e'⟩:=x0.2.2 a o e
  exact ⟨c,_,e',t⟩
 ·obtain ⟨c,o,e,t⟩:=F.mu a h
  obtain ⟨sl,e'⟩:=x.2.2 a o e
  exact ⟨c,_,e',t⟩
 ·have V:=F.vars i y lv a b c
  cases lv with
  | dat d=>obtain ⟨v,h,r⟩:=V;exact ⟨v,varK _ _ h,r.mono view⟩
  | own d =>
   obtain ⟨v,h,ov⟩:=V
   have o3:=F.own i d b
   have hm:ad i∉env.locals::frL fr:=fun z=>by
    rcases List.mem_cons.mp z with z | z
    ·exact o3.2.1 z
    ·obtain ⟨o,e,_⟩:=tS _ z
     rw [F.wNew _ o3.1] at e;exact nos e
   have keep:∀ b o,(Mu b=false∨b=ad i)→s.heap.get? b=some o→av.get? b=some o:=fun b o hb e=>by
    rw [x.2.1 b fun z=>by
     rcases hb with hb | hb
     ·rw [muT b z] at hb;cases hb
     ·exact hm (hb ▸ z)]
    exact e
   exact ⟨v,varK _ _ h,ov.off keep⟩
 ·show az.get? a=none
  have hn:=F.wNew a h
  rw [x0.2.1 a fun z=>by
   obtain ⟨o,e,_⟩:=tS _ z
   rw [hn] at e;cases e]
  exact hn
end
end Mine
end
section
open PySem PySem.W PyProof.Rows PySem.Calls PySem.Spec
open Sem (wp)
set_option autoImplicit false
set_option maxRecDepth 4000
namespace Mine
section
variable {C:Cfg} {lev:Nat} {Γ:List Fn} {ns fs:List Str} {A:Around} {env:Env} {ah:Shared} {ac:Addr→Bool} {ρ:Ro} {W Mu Mv:Addr→Bool} {ad:Nat→Addr} {s s':Shared}
theorem cJ7 {np pos:Pos} {y:Str} {id:String} {x:Expr} (X:Cx C lev Γ ns A env ρ Mv s) (hs:aA8 x=true) (hg:aC4 env.scope y (Str.ofString id)=true)
  (hx:Str.ofString id∈aL7) (hv:bootBuiltins (Str.ofString id)=some (.type id)) (hn:Str.ofString id≠"__name__")
  {Q:Value→Shared→Prop} {E:Value→Shared→Prop}
  (k:wpAny (model C.prog C.w) A (eval x env) (fun v s'=>wpN (model C.prog C.w) A (call (.type id) [v]) Q E s') E s) :
  wpN (model C.prog C.w) A (eval (.Call (.Name y np) [x] [] pos) env) Q E s:=by
 simp only [aC4,Bool.and_eq_true,decide_eq_true_eq,Bool.not_eq_true'] at hg
 obtain ⟨⟨rfl,hk⟩,hd⟩:=hg
 refine bA4 (aL4 X hk hd hx hv hn ?_)
 rw [aA5 hs,aD9]
 exact aV1 rfl (evalArgs_plain (spliced_cons (wpAny_mono k (fun v s' h=>spliced_nil h) fun _ _ e=>e)))
noncomputable def eF0 (n:Int):D:=.barr (List.replicate n.toNat 0).toArray
theorem cK2 {sc:Scope} {i:Nat} {x y:Str} {p p1 p2 q:Pos} {v:Expr} {e:IE} {n:Int} {Q:Flow→Shared→Prop} {E:Value→Shared→Prop} (hx:aB6 ns sc i x=true) (hg:aC4 sc y "bytearray"=true) (h0:aA8 v=true) (h:Vk C lev Γ ns e sc v)
  (F:Frm C lev Γ ns A env ah ac ρ W Mu ad s) (hs:env.scope=sc) (hn:ev Γ e true ρ=some (.int n)) (hz:0≤n∧n≤1000)
  (K:∀ W' Mu' ad' s',Frm C lev Γ ns A env ah ac (aA2 ρ i (.own (eF0 n))) W' Mu' ad' s'→Stp C W Mu s W' Mu' s'→Q .next s'):wpN (model C.prog C.w) A (exec (.Assign [.Name x p] (.Call (.Name y p1) [v] [] p2) q) env) Q E s :=
 aT3 (cJ7 (id:="bytearray") F.cx h0 (gAt hs hg) (by decide) (by rfl) (by decide) ((h.t F.cx hs hn).toks _ _ fun u aa aj ax r=>by
  obtain ⟨t,rfl⟩:=aM2 r
  refine BAr.new_N hz fun h' tk hk ht eb=>?_
  have gp:Go C aa { aa with heap:=h',toks:=tk }:=.keep hk
  exact aW9 F (aK9 hs hx).1 (aK9 hs hx).2 (aj.trans gp) (aA9 ax ht) (bN2 F.ok aj (Nat.le_refl _)) (.barr eb) fun W' Mu' ad' s' F' st=>K _ _ _ _ F' st)) rfl
end
end Mine
end
section
open PySem PySem.W PyProof.Rows PySem.Calls PySem.Spec
open Sem (wp)
open Heap (SlotsOnly)
set_option autoImplicit false
set_option maxRecDepth 4000
namespace Mine
noncomputable def CallOkN (C:Cfg) (lev:Nat) (f:Addr) (g:List D→Option D):Prop :=
 ∀ (A:Around) (fr:List Env) (Mu:Addr→Bool) (s:Shared) (vs:List Value) (ds:List D) (d:D),RoomL lev A→A.frames=some fr→FrOk C Mu s.heap fr→SOk C s→MuOk C Mu s.heap→RdL C (Fz s.heap Mu) vs ds→g ds=some d →
  ∀ R:Result→Shared→Prop,(∀ v az s',SlotsOnly (frL fr) s.heap az→Go C { s with heap:=az } s'→s.toks≤s'.toks→Rd C (Fz s'.heap Mu) v d→R (.ok (.ret v)) s')→codeN (model C.prog C.w) A (.call (.ref f) ⟨vs,[]⟩) R s
noncomputable def WL (W:Addr→Bool) (Ls:List Addr):Addr→Bool:=fun a=>W a || Ls.contains a
theorem aQ7 {W:Addr→Bool} {Ls:List Addr} {a:Addr} (h:WL W Ls a=false):W a=false∧a∉Ls:=by
 unfold WL at h
 rw [Bool.or_eq_false_iff] at h
 exact ⟨h.1,fun m=>by rw [List.contains_iff_mem.mpr m] at h;cases h.2⟩
theorem cX0 {W:Addr→Bool} {Ls:List Addr} {a:Addr} (h:W a=false) (m:a∉Ls):WL W Ls a=false:=by
 unfold WL
 rw [h,Bool.false_or]
 cases q:Ls.contains a with
 | false=>rfl
 | true=>exact absurd (List.contains_iff_mem.mp q) m
theorem dI0 {W:Addr→Bool} {Ls:List Addr} {a:Addr} (h:WL W Ls a=true):W a=true∨a∈Ls:=by
 unfold WL at h
 rw [Bool.or_eq_true] at h
 exact h.imp id List.contains_iff_mem.mp
section
variable {C:Cfg} {lev:Nat} {Γ:List Fn} {ns fs:List Str} {A:Around} {env:Env} {ah:Shared} {ac:Addr→Bool} {ρ:Ro} {W Mu:Addr→Bool} {ad:Nat→Addr} {s s':Shared} {fr:List Env}
theorem Stp.wide {W' Mu':Addr→Bool} (Ls:List Addr) (q:Stp C W Mu s W' Mu' s'):Stp C (WL W Ls) Mu s (WL W' Ls) Mu' s' where
 keep:=fun b o h e c=>q.keep b o (aQ7 h).1 e c
 new:=fun a h=>by
  rcases dI0 h with z | z
  ·rcases q.new a z with y | y
   ·exact .inl (by unfold WL;rw [y];rfl)
   ·exact .inr y
  ·exact .inl (by unfold WL;rw [List.contains_iff_mem.mpr z,Bool.or_true])
 newMu:=q.newMu
 resv:=fun a h w e=>q.resv a h (aQ7 w).1 e
 has:=q.has
 tk:=q.tk
theorem Frm.offL (F:Frm C lev Γ ns A env ah ac ρ W Mu ad s):ah.heap.get? env.locals=none:=F.wNew _ F.wL.1
theorem Frm.frOk0 (F:Frm C lev Γ ns A env ah ac ρ W Mu ad s) (O:FrOk C ac ah.heap fr):FrOk C Mu s.heap fr:=(O.ext F.mu0 F.base.ext).sub F.muSub
theorem Frm.frOk (F:Frm C lev Γ ns A env ah ac ρ W Mu ad s) (hf:env.frame=some env.locals) (O:FrOk C ac ah.heap fr):FrOk C Mu s.heap (env::fr):=fun e he=>by
 rcases List.mem_cons.mp he with rfl | he
 ·obtain ⟨m,o,es,ep,ho,hd,_⟩:=F.frame.ns
  refine ⟨by rw [F.envOk.kind];decide,e.locals,o,hf,F.frame.muL,?_,ho,fun vs z=>by rw [hd] at z;cases z⟩
  cases q:C.K.lookup e.locals with
  | none=>rfl
  | some o=>have:=F.offL;rw [F.ok0.top.kin _ _ q] at this;exact nos this.symm
 ·exact F.frOk0 O e he
theorem Frm.slotStp (F:Frm C lev Γ ns A env ah ac ρ W Mu ad s) {av:Heap} (x:SlotsOnly (env.locals::frL fr) s.heap av):Stp C (WL W (frL fr)) Mu s (WL W (frL fr)) Mu { s with heap:=av } where
 keep:=fun b o h e _=>by
  obtain ⟨h1,h2⟩:=aQ7 h
  show av.get? b=some o
  rw [x.2.1 b fun z=>by
   rcases List.mem_cons.mp z with z | z
   ·rw [z,F.wL.1] at h1;cases h1
   ·exact h2 z]
  exact e
 new:=fun _ h=>.inl h
 newMu:=fun _ h=>.inl h
 resv:=fun _ h _ _=>h
 has:=fun a h=>by
  obtain ⟨o,e⟩:=Option.isSome_iff_exists.mp h
  obtain ⟨sl,e'⟩:=x.2.2 a o e
  show (av.get? a).isSome=true
  rw [e'];rfl
 tk:=Nat.le_refl _
theorem dT5 {fa:Addr} {params:List Str} {body:List Stmt} {sc:Scope} {g:List D→Option D} (fns:FnsOk C lev Γ) (kit:Kit C) (D:DefIs C fa params body sc) (hsc:ScopeIs ns params sc) (hloc:(params.all (fun x=>decide (sc.names.lookup x=some .local))&&!params.isEmpty)=true)
  (hb:∀ {A:Around} {env:Env} {ah:Shared} {ac W Mu:Addr→Bool} {ad:Nat→Addr} {s:Shared} {fr:List Env} {ds:List Mine.D} {d:Mine.D},env.scope=sc→env.frame=some env.locals→A.frames=some (env::fr)→FrOk C ac ah.heap fr →
   Frm C lev Γ ns A env ah ac (ro0 0 ds) W Mu ad s→g ds=some d→∀ (Q:Flow→Shared→Prop) (E:Value→Shared→Prop),
   (∀ v az s',SlotsOnly (frL fr) ah.heap az→Go C { ah with heap:=az } s'→ah.toks≤s'.toks→Rd C (Fz s'.heap ac) v d→Q (.ret v) s')→wpN (model C.prog C.w) A (execs body env) Q E s) :
  CallOkN C (lev+1) fa (fun ds=>if ds.length=params.length then g ds else none):=by
 intro A fr Mu s vs ds d R hfr O S M r hg Res K
 refine hid fun Gz zz=>?_
 obtain ⟨⟨o,fd,e1,e2,rfl,e4,e5,e6,e7,e8,e9⟩,co,gen⟩:=D
 obtain ⟨hl1,hl2⟩:=Bool.and_eq_true_iff.mp hloc
 refine zz ?_;clear zz Gz
 have hlen:ds.length=params.length:=(Al.ite (T:=fun _=>ds.length=params.length) fun h=>fun _ _=>h:Al (if ds.length=params.length then g ds else none) _) d hg
 refine aW1 (by have:=R.depth;exact bH6 this) (S.top.kin fa o e1) e2 co gen e4 (codeRec_of S.top.kin e8) ?_
 rw [e9 vs (r.length.trans hlen),e5,e6,e7]
 refine wpAny_pure (bG4 fns kit hsc R S M r hlen (.inr ⟨fun z=>(by rw [z] at hl2;exact noB hl2),fun x hx=>of_decide_eq_true (List.all_eq_true.mp hl1 x hx)⟩) fun env Mv h' tk hs hf _ F =>
  ⟨F.ok.top.nolimit,cJ1 (hb (fr:=fr) hs hf ?_ O F ((if_pos hlen).symm.trans hg) _ _ fun v az s' x g' t' rv=>K v az s' x g' t' rv)⟩)
 show A.frames.map (env::·)=_
 rw [hfr];rfl
noncomputable def DoneN (C:Cfg) (lev:Nat) (Γ:List Fn) (ns:List Str) (A:Around) (env:Env) (Ls:List Addr) (ah:Shared) (ac:Addr→Bool) (W Mu:Addr→Bool) (s:Shared) (o:Out) (Q:Flow→Shared→Prop):Prop :=
 match o with
 | .next ao=>∀ az W' Mu' ad' s',SlotsOnly Ls ah.heap az→Frm C lev Γ ns A env { ah with heap:=az } ac ao W' Mu' ad' s'→Stp C (WL W Ls) Mu s (WL W' Ls) Mu' s'→Q .next s'
 | .brk ao=>∀ az W' Mu' ad' s',SlotsOnly Ls ah.heap az→Frm C lev Γ ns A env { ah with heap:=az } ac ao W' Mu' ad' s'→Stp C (WL W Ls) Mu s (WL W' Ls) Mu' s'→Q .brk s'
 | .ret d=>∀ v az s',SlotsOnly Ls ah.heap az→Go C { ah with heap:=az } s'→ah.toks≤s'.toks→Rd C (Fz s'.heap ac) v d→Q (.ret v) s'
theorem DoneN.after {Ls:List Addr} {az:Heap} {W' Mu':Addr→Bool} {o:Out} {Q:Flow→Shared→Prop} (d:DoneN C lev Γ ns A env Ls ah ac W Mu s o Q) (x:SlotsOnly Ls ah.heap az) (st:Stp C (WL W Ls) Mu s (WL W' Ls) Mu' s') :
  DoneN C lev Γ ns A env Ls { ah with heap:=az } ac W' Mu' s' o Q:=by
 cases o with
 | next ao=>exact fun av W'' Mu'' ad'' s'' y F q=>d av W'' Mu'' ad'' s'' (x.trans y) F (st.trans q)
 | brk ao=>exact fun av W'' Mu'' ad'' s'' y F q=>d av W'' Mu'' ad'' s'' (x.trans y) F (st.trans q)
 | ret d'=>exact fun v av s'' y g t r=>d v av s'' (x.trans y) g t r
theorem DoneN.after0 {Ls:List Addr} {W' Mu':Addr→Bool} {o:Out} {Q:Flow→Shared→Prop} (d:DoneN C lev Γ ns A env Ls ah ac W Mu s o Q) (st:Stp C W Mu s W' Mu' s') :
  DoneN C lev Γ ns A env Ls ah ac W' Mu' s' o Q:=d.after (.refl _ _) (st.wide Ls)
theorem DoneN.plain {Ls:List Addr} {o:Out} {Q:Flow→Shared→Prop} (d:DoneN C lev Γ ns A env Ls ah ac W Mu s o Q):Done C lev Γ ns A env ah ac W Mu s o Q:=by
 cases o with
 | next ao=>exact fun W'' Mu'' ad'' s'' F q=>d ah.heap W'' Mu'' ad'' s'' (.refl _ _) F (q.wide Ls)
 | brk ao=>exact fun W'' Mu'' ad'' s'' F q=>d ah.heap W'' Mu'' ad'' s'' (.refl _ _) F (q.wide Ls)
 | ret d'=>exact fun v s'' g t r=>d v ah.heap s'' (.refl _ _) g t r
theorem cM6 {sc:Scope} {i:Nat} {x y:Str} {p p1 p2 q:Pos} {es:IEs} {vs:List Expr} {fa:Addr} {o:Obj} {fd:FuncData} {g:List Mine.D→Option Mine.D} {ds:List Mine.D} {d:Mine.D} {Q:Flow→Shared→Prop} {E:Value→Shared→Prop} (F:Frm C lev Γ ns A env ah ac ρ W Mu ad s) (hs:env.scope=sc)
  (hef:env.frame=some env.locals) (hfr:A.frames=some (env::fr)) (O:FrOk C ac ah.heap fr) (hx:aB6 ns sc i x=true) (hk:env.scope.names.lookup y=some .globalImplicit) (hdb:(y == ("__debug__":Str))=false) (hne:vs.isEmpty=false) (h:Vks C lev Γ ns sc es vs)
  (hmg:C.mg y=some (.ref fa)) (ho:C.K.lookup fa=some o) (hod:o.data=.func fd) (hc:CallOkN C lev fa g) (hds:evs Γ es false ρ=some ds) (hd:g ds=some d)
  (K:∀ az s',SlotsOnly (frL fr) ah.heap az→Frm C lev Γ ns A env { ah with heap:=az } ac (aA2 ρ i (.dat d)) W Mu ad s'→Stp C (WL W (frL fr)) Mu s (WL W (frL fr)) Mu s'→Q .next s'):wpN (model C.prog C.w) A (exec (.Assign [.Name x p] (.Call (.Name y p1) vs [] p2) q) env) Q E s:=by
 have hargs:=bK2 h (tr:=false) (p:=p2) F.cx hs _ hds
 have hany:=dX8 p2 env h
 refine aT3 (bA4 (aM4 F.cx hk hdb hmg ?_)) rfl
 cases h with
 | nil=>cases hne
 | cons h0 he ht =>
  refine bU2 (o:=o) (fd:=fd) hany ?_
  rw [aA5 h0] at hargs ⊢
  refine evalArgs_plain (hargs _ _ fun vs aa aj ax r=>?_)
  have aD:=F.go aj ax
  rw [aH7] at r
  refine ⟨⟨aD.ok.top.kin fa o ho,hod⟩,?_⟩
  refine aT4 (hc A (env::fr) Mu aa vs ds d aD.room hfr (aD.frOk hef O) aD.ok aD.mu r hd _ fun v av ai x al aF rv=>?_)
  have x':SlotsOnly (env.locals::frL fr) aa.heap av:=by
   have e:frL (env::fr)=env.locals::frL fr:=by unfold frL;rw [List.filterMap_cons,hef]
   rw [← e];exact x
  obtain ⟨az,x0,dw⟩:=aD.ready O x'
  have bf:=dw.go al aF
  have cg:=((aj.stp (W:=W) (Mu:=Mu) F.ok.tab ax).wide (frL fr)).trans (aD.slotStp (fr:=fr) x')
  have bB:=cg.trans ((al.stp (W:=W) (Mu:=Mu) dw.ok.tab aF).wide (frL fr))
  exact aR8 bf (aK9 hs hx).1 (aK9 hs hx).2 rv fun s' F' st=>K az s' x0 F' (bB.trans (st.wide (frL fr)))
end
end Mine
end
section
open PySem PySem.W PyProof.Rows PySem.Calls PySem.Spec
open Sem (wp)
set_option autoImplicit false
set_option maxRecDepth 4000
namespace Mine
section
variable {prog:Program} {w:World} {A:Around} {E:Value→Shared→Prop} {s:Shared}
theorem cL9 {α:Type} {M:Model} {env:Env} {m:Sem α} {Q:α→Shared→Prop} (h:wpN M A m Q (notedBy M A env E) s):wpN M A (m.onRaise fun x=>do noteFrame x env;theTreesLotGoes x) Q E s :=
 aV2 (aL2 h (fun _ _ q=>q) fun _ _ hx=>wpAny_bind (wpAny_mono hx (fun _ _ e=>wpAny_theTreesLotGoes e) fun _ _ e=>e))
theorem cJ0 {M:Model} {c:Code} {R:Result→Shared→Prop} (hq:c.quiet=true) (hc:calm c=true) (I:Nat→Shared→Prop)
  (turn:∀ n s,I n s→wpN M (A.under c) (M.den c)
   (fun fin s'=>match fin with
    | .done f=>R (.ok f) s'
    | .again c'=>(c'=c∧∃ m,m < n∧I m s')∨(c'.quiet=true∧codeN M A c' R s')) (fun e s'=>R (.error e) s') s)
  (n:Nat) (h:I n s):codeN M A c R s:=by
 induction n using Nat.strongRecOn generalizing s with
 | ind n ih =>
  refine aE5 hc (aL2 (turn n s h) (fun fin s' hf=>?_) fun _ _ h'=>h')
  cases fin with
  | done f=>exact hf
  | again c' =>
   rcases hf with ⟨rfl,m,hm,hI⟩ | hf
   ·exact ⟨hq,ih m hm hI⟩
   ·exact hf
theorem bN9 {R:Result→Shared→Prop} {target:Expr} {it:Value} {body orelse:List Stmt} {env:Env} (I:Nat→Shared→Prop)
  (turn:∀ n s,I n s→wpAny (model prog w) A (pyNext it) (fun r aa=>match r with
   | none=>wpAny (model prog w) A (execs orelse env) (fun f ar=>R (.ok f) ar) (notedBy (model prog w) A env fun e s'=>R (.error e) s') aa
   | some v=>wpAny (model prog w) A (letOwnedTupleGo target it v) (fun _ bz =>
     wpAny (model prog w) A (assign target env v) (fun _ ai=>wpN (model prog w) A (execs body env) (fun f ar=>match f with
      | .next | .cont=>∃ m,m < n∧I m ar
      | .brk=>R (.ok .next) ar
      | .ret v=>R (.ok (.ret v)) ar) (notedBy (model prog w) A env fun e s'=>R (.error e) s') ai) (notedBy (model prog w) A env fun e s'=>R (.error e) s') bz) (notedBy (model prog w) A env fun e s'=>R (.error e) s') aa) (notedBy (model prog w) A env fun e s'=>R (.error e) s') s)
  (n:Nat) (h:I n s):codeN (model prog w) A (.forLoop target it body orelse env) R s:=by
 refine cJ0 rfl rfl I (fun n s hI=>?_) n h
 show wpN _ A ((forTurn target it body orelse env).onRaise (fun x=>do noteFrame x env;theTreesLotGoes x)) _ _ s
 refine cL9 ?_
 simp only [forTurn]
 refine aA7 (wpAny_standAt (aA7 (wpAny_onRaise (wpAny_mono (turn n s hI) (fun r aa av=>?_) fun _ _ h'=>wpAny_standAt h'))))
 cases r with
 | none=>exact aD4 (.inr ⟨rfl,dG0 (codeAny_block av)⟩)
 | some v =>
  refine aA7 (wpAny_mono av (fun _ bz bu=>?_) fun _ _ h'=>h')
  refine aA7 (wpAny_mono bu (fun _ ai aL=>aG7 (aL2 aL (fun f ar a7=>?_) fun _ _ h'=>h')) fun _ _ h'=>h')
  cases f with
  | next=>exact aD4 (.inl ⟨rfl,a7⟩)
  | cont=>exact aD4 (.inl ⟨rfl,a7⟩)
  | brk=>exact aD4 a7
  | ret v=>exact aD4 a7
end
section
variable {M:Model} {A:Around} {E:Value→Shared→Prop} {s:Shared} {env:Env}
theorem dL0 {c:Code} {h:Option Value} {Q:Flow→Shared→Prop}
  (hc:codeN M (A.mark h) c (fun r s'=>match r with | .ok f=>Q f s' | .error e=>E e s') s) (hnb:h≠some byPass):wpN M A (PySem.run c h) Q E s :=
 fun Γ p bl h1 h2=>by rw [Sem.wp_run];exact hc _ p rfl (bl.enter c h p hnb) (bK9 h1 h2)
theorem cE4 {c:Code} {h:Option Value} {Q:Flow→Shared→Prop}
  (hc:codeN M (A.mark h) c (fun r s'=>match r with | .ok f=>Q f s' | .error e=>cameBackBy M A env E e s') s) (hnb:h≠some byPass):wpN M A (runOwn c env h) Q E s:=by
 dsimp only [runOwn]
 exact aV2 (dL0 hc hnb)
theorem eN8 {target iter:Expr} {body orelse:List Stmt} {pos:Pos} {Q:Flow→Shared→Prop}
  (h:wpAny M A (eval iter env) (fun x aa=>wpAny M A (pyIter x) (fun it ai =>
   codeN M A (.forLoop target it body orelse env) (fun r s'=>match r with | .ok f=>Q f s' | .error e=>cameBackBy M A env E e s') ai) E aa) E s)
  (hs:∀ x,foldedSetIterable iter env x=pure x):wpN M A (exec (.For target iter body orelse pos) env) Q E s:=by
 rw [exec_For]
 exact aA7 (wpAny_standAt (aA7 (wpAny_mono h (fun x aa av=>aA7 (wpAny_of_eq (hs x) (aA7 (wpAny_standAt (aA7 (wpAny_holding
  (wpAny_mono av (fun it ai aL=>cE4 aL (by intro x;cases x)) fun _ _ h'=>h'))))))) fun _ _ h'=>h')))
theorem eY3 {test:Expr} {body orelse:List Stmt} {pos:Pos} {Q:Flow→Shared→Prop}
  (h:wpAny M A (isTrue test env (eval test env)) (fun b ai=>if b then wpN M A (execs body env) Q E ai else wpN M A (execs orelse env) Q E ai) E s):wpN M A (exec (.If test body orelse pos) env) Q E s:=fun Γ p bl h1 h2=>by
 simp only [exec_If,Sem.wp_bind',Sem.wp_cmd_standAt]
 refine Sem.wp_mono M Γ _ (fun b cA ai hh=>?_) (fun _ _ _ h'=>h') _ _ (h Γ _ bl)
 cases b<;>exact hh Γ cA bl h1 h2
end
end Mine
end
section
open PySem PySem.W PyProof.Rows PySem.Calls PySem.Spec
open Heap (SlotsOnly)
set_option autoImplicit false
set_option maxRecDepth 4000
namespace Mine
section
variable {C:Cfg} {lev:Nat} {Γ:List Fn} {ns fs:List Str} {A:Around} {env:Env} {ah:Shared} {ac:Addr→Bool} {ρ:Ro} {W Mu:Addr→Bool} {ad:Nat→Addr} {s s':Shared} {fr:List Env}
theorem eX9 {prog:Program} {w:World} {A:Around} {s:Shared} {R:Result→Shared→Prop} {target:Expr} {it:Value} {body:List Stmt} {env:Env} (I:Nat→Shared→Prop)
  (turn:∀ n s,I n s→∀ (E:Value→Shared→Prop) (K0:Option Value→Shared→Prop) (KB:Flow→Shared→Prop) (K5:Shared→Prop),(∀ aa,R (.ok .next) aa→K0 none aa) →
   (∀ v aa,wpAny (model prog w) A (letOwnedTupleGo target it v) (fun _ bz=>wpAny (model prog w) A (assign target env v) (fun _ ai=>wpN (model prog w) A (execs body env) KB E ai) E bz) E aa→K0 (some v) aa) →
   (∀ ar,K5 ar→KB .next ar)→(∀ ar,R (.ok .next) ar→KB .brk ar)→(∀ v ar,R (.ok (.ret v)) ar→KB (.ret v) ar)→(∀ m s',m < n→I m s'→K5 s')→wpAny (model prog w) A (pyNext it) K0 E s)
  (n:Nat) (h:I n s):codeN (model prog w) A (.forLoop target it body [] env) R s :=
 bN9 I (fun n s hI=>turn n s hI _ _ _ _ (fun _ h=>wpAny_execs_nil h) (fun _ _ h=>h) (fun _ h=>h) (fun _ h=>h) (fun _ _ h=>h) fun m _ a b=>⟨m,a,b⟩) n h
theorem bS8 {target iter:Expr} {body:List Stmt} {pos:Pos} {names:List Str} {bnd:D→Option (List (Nat × D))} {ds:List D} {bodyRun:Ro→Option Out} {o:Out} {Q:Flow→Shared→Prop} {E:Value→Shared→Prop}
  (O:FrOk C ac ah.heap fr) (F:Frm C lev Γ ns A env ah ac ρ W Mu ad s) (hset:aP3 iter) (hit:bU8 C A Mu env iter s ds) (hcan:∀ x∈names,∃ i:Nat,ns[i]?=some x∧bB6 env.scope x=true) (tks:cK7 C A ns target names bnd)
  (own:∀ I fp P St aa,Itr C A I Mu ds fp P St aa→∀ i j (s':Shared) v (Q:Unit→Shared→Prop) (E:Value→Shared→Prop),St i s'.heap→P j v→Q () s'→wpAny (model C.prog C.w) A (letOwnedTupleGo target (.ref I) v) Q E s')
  (hr:aH0 (fun d ρ=>(bnd d).bind fun bs=>bodyRun (aD2 bs ρ)) ds ρ=some o)
  (hbody:∀ ci ao W' Mu' ad' s' o' (Q':Flow→Shared→Prop) (E':Value→Shared→Prop),FrOk C ac ci.heap fr→Frm C lev Γ ns A env ci ac ao W' Mu' ad' s'→bodyRun ao=some o'→DoneN C lev Γ ns A env (frL fr) ci ac W' Mu' s' o' Q'→wpN (model C.prog C.w) A (execs body env) Q' E' s')
  (K:DoneN C lev Γ ns A env (frL fr) ah ac W Mu s o Q):wpN (model C.prog C.w) A (exec (.For target iter body [] pos) env) Q E s:=by
 have hs:∀ x,foldedSetIterable iter env x=pure x:=hset env
 refine eN8 (hit _ _ fun aa I fp P St ai aj ax hI itr al aF st=>?_) hs
 have aD:=F.go aj ax
 refine hid fun Gz zz=>?_
 obtain ⟨oI,eI,c1,c2⟩:=itr.cls _ _ st
 refine zz ?_;clear zz Gz
 have bf:=aD.addMu hI al aF ⟨oI,eI,c1,c2⟩
 have lsMu:∀ b∈frL fr,Mu b=true∧(aa.heap.get? b).isSome=true:=fun b m=>by
  obtain ⟨z,_,o,e,_⟩:=(aD.frOk0 O).mem m
  exact ⟨z,by rw [e];rfl⟩
 have hIl:I∉frL fr:=fun m=>by have:=(lsMu I m).2;rw [hI] at this;exact noB this
 have hWI:WL W (frL fr) I=false:=by
  refine cX0 ?_ hIl
  cases q:W I with
  | false=>rfl
  | true =>
   obtain ⟨_,o',e',_⟩:=aD.mu I (aD.wMu I q)
   rw [hI] at e';exact nos e'
 have h0:=aD.fresh0 hI
 have fpW:∀ {W' Mu':Addr→Bool} {s':Shared},Stp C (WL W (frL fr)) Mu aa (WL W' (frL fr)) Mu' s'→WL W' (frL fr) I=false→∀ b∈fp,WL W' (frL fr) b=false:=fun {W' Mu' s'} q hi b hb=>by
  rcases itr.fpOld b hb with rfl | ⟨hm,o',e'⟩
  ·exact hi
  ·refine q.off (cX0 ?_ fun m=>by rw [(lsMu b m).1] at hm;cases hm) ((e') ▸ rfl)
   cases z:W b with
   | false=>rfl
   | true=>rw [aD.wMu b z] at hm;cases hm
 refine eX9 (fun n s'=>∃ az i ao W' Mu' ad',i≤ds.length∧n=ds.length+1 - i∧aH0 (fun d ρ=>(bnd d).bind fun bs=>bodyRun (aD2 bs ρ)) (ds.drop i) ao=some o∧SlotsOnly (frL fr) ah.heap az∧Frm C lev Γ ns A env { ah with heap:=az } ac ao W' Mu' ad' s' ∧
   Stp C (WL W (frL fr)) Mu aa (WL W' (frL fr)) Mu' s'∧St i s'.heap∧Mu' I=true∧WL W' (frL fr) I=false) ?_ (ds.length+1) ⟨ah.heap,0,ρ,W,bL1 Mu I,ad,Nat.zero_le _,rfl,hr,.refl _ _,bf,?_,st,aP2 _ _,hWI⟩
 ·intro n s' hI' E' K0 KB K5 hn hs' hnx hbk hrt hK
  refine hid fun Gz zz=>?_
  obtain ⟨az,i,ao,W',Mu',ad',hi,rfl,hgo,x0,F',q,st',hMI,hWI'⟩:=hI'
  refine zz ?_;clear zz Gz
  have stp0:=(aj.stp (W:=W) (Mu:=Mu) F.ok.tab ax).wide (frL fr)
  have h0:az.get? I=none:=by
   cases z:az.get? I with
   | none=>rfl
   | some o' =>
    have hh:=h0
    rw [← x0.2.1 I hIl,z] at hh;exact nos hh.symm
  by_cases hlt:i < ds.length
  ·refine wpAny_with_toks (n:=s'.toks) (Nat.le_refl _) (itr.walks.item i _ _ _ hlt st' fun v av bJ hPv bd a8 be=>?_)
   have bL:∀ b o,b≠I→s'.heap.get? b=some o→av.get? b=some o:=fun b o hb e=>a8 b o (by simpa using hb) e
   obtain ⟨d,hd,rd⟩:=itr.item i v hPv
   have hdrop:ds.drop i=d::ds.drop (i+1):=by
    rw [List.drop_eq_getElem_cons hlt]
    rw [List.getElem?_eq_getElem hlt] at hd;obtain rfl:=Option.some.inj hd;rfl
   rw [hdrop,aH0] at hgo
   obtain ⟨o',ho',hgo⟩:=Option.bind_eq_some_iff.mp hgo
   obtain ⟨bs,hbs,hrun⟩:=Option.bind_eq_some_iff.mp ho'
   have aR:=F'.aside (tk:=bJ) hMI (aQ7 hWI').1 h0 bL (let ⟨o,e,a,b⟩:=itr.cls _ _ bd;⟨o,e,a,b⟩) be
   have bQ:Stp C (WL W (frL fr)) Mu aa (WL W' (frL fr)) Mu' { s' with heap:=av,toks:=bJ }:=q.at hI bL be
   refine hs' _ _ (own _ _ _ _ _ itr _ _ _ _ _ _ bd hPv ?_)
   have view:VLe (Fz aa.heap Mu) (Fz av Mu'):=fun a o e c=>by
    dsimp only [Fz] at e ⊢
    by_cases m:Mu a=true
    ·rw [if_pos m] at e;exact nos e
    ·rw [if_neg m] at e
     have hWa:WL W (frL fr) a=false:=by
      refine cX0 ?_ fun z=>m (lsMu a z).1
      cases z:W a with
      | false=>rfl
      | true=>exact absurd (aD.wMu a z) m
     rw [if_neg fun z=>by
      rcases q.newMu a z with z | z
      ·exact m z
      ·rw [e] at z;cases z]
     exact bQ.keep a o hWa e (.inl c)
   have cs:∀ x∈names,aE7 env x:=fun x hx=>let ⟨i,a,b⟩:=hcan x hx;F.can i x a b
   refine tks env _ Mu' v d bs aR.envOk aR.frame aR.mu cs (rd.mono view) hbs _ _ fun aL bx pt hbd hnm bD=>?_
   obtain ⟨bo,bE⟩:=aR.bound cs pt hbd hnm bD
   have bv:St (i+1) aL:=itr.walks.frame _ _ _ bd fun b hb o e=>bE.keep b o (aQ7 (fpW q hWI' b hb)).1 e (.inr (itr.fpOk b hb))
   refine hbody _ _ _ _ _ _ o' _ _ (O.slots x0) bo hrun ?_
   have bE:=bE.wide (frL fr)
   have stNext:∀ {W'' Mu'':Addr→Bool} {s'':Shared},Stp C (WL W' (frL fr)) Mu' { s' with heap:=aL,toks:=bx } (WL W'' (frL fr)) Mu'' s''→St (i+1) s''.heap∧Mu'' I=true∧WL W'' (frL fr) I=false:=fun {W'' Mu'' s''} p=>by
    have hasI:(aL.get? I).isSome=true:=by
     obtain ⟨_,o',e',_⟩:=bo.mu I hMI
     have e'':aL.get? I=some o':=e'
     rw [e''];rfl
    exact ⟨itr.walks.frame _ _ _ bv fun b hb o e=>p.keep b o (fpW q hWI' b hb) e (.inr (itr.fpOk b hb)),p.resv I hMI hWI' hasI,p.off hWI' hasI⟩
   cases o' with
   | next bF =>
    intro bu W'' Mu'' ad'' s'' y F'' p
    obtain ⟨a,b,c⟩:=stNext p
    exact hnx _ (hK _ _ (cO8 hlt) ⟨bu,i+1,bF,W'',Mu'',ad'',hlt,rfl,hgo,x0.trans y,F'',(bQ.trans bE).trans p,a,b,c⟩)
   | brk bF =>
    cases hgo
    intro bu W'' Mu'' ad'' s'' y F'' p
    obtain ⟨a,b,c⟩:=stNext p
    have h0':bu.get? I=none:=by
     have hh:=y.2.1 I hIl
     rw [show ({ ah with heap:=az }:Shared).heap.get? I=none from h0] at hh
     exact hh
    have Fd:=F''.drop (tk:=s''.toks) (h':=s''.heap) b (aQ7 c).1 h0' (fun _ _ _ e=>e) (Nat.le_refl _)
    exact hbk _ (K bu _ _ _ _ (x0.trans y) Fd (stp0.trans (((bQ.trans bE).trans p).sub hI)))
   | ret d' =>
    cases hgo
    exact fun v bu s'' y g t r=>hrt _ _ (K v bu s'' (x0.trans y) g t r)
  ·have hie:i=ds.length:=cO7 hi hlt
   subst hie
   refine wpAny_with_toks (n:=s'.toks) (Nat.le_refl _) (itr.walks.done _ _ _ st' fun h' tk hk htk=>?_)
   rw [List.drop_length] at hgo
   obtain rfl:=Option.some.inj hgo
   have hk':∀ b o,b≠I→s'.heap.get? b=some o→h'.get? b=some o:=fun b o hb e=>hk b o (by simpa using hb) e
   have Fd:=F'.drop (tk:=tk) hMI (aQ7 hWI').1 h0 hk' htk
   exact hn _ (K az _ _ _ _ x0 Fd (stp0.trans ((q.at hI hk' htk).sub hI)))
 ·have q:=(al.stp (W:=W) (Mu:=Mu) aD.ok.tab aF).wide (frL fr)
  exact ⟨q.keep,q.new,fun b h=>by
   rcases aD0 h with z | z
   ·exact .inl z
   ·exact .inr (z ▸ hI),fun b h _ _=>aH3 h,q.has,q.tk⟩
end
end Mine
end
section
open PySem PySem.W PyProof.Rows PySem.Calls PySem.Spec
open Heap (SlotsOnly)
set_option autoImplicit false
set_option maxRecDepth 4000
namespace Mine
mutual
inductive NS where
 | plain (i:IS)
 | freeze (i:Nat)
 | turn (i k:Nat) (es:IEs)
 | barr (i:Nat) (e:IE)
 | tryInt (i j:Nat)
 | ite (t:IT) (a b:NSs)
 | for1 (i:Nat) (it:It) (body:NSs)
 | for2 (i j:Nat) (it:It) (body:NSs)
inductive NSs where
 | nil
 | cons (i:NS) (is:NSs)
end
noncomputable def dY6 (x:Str):Option Int:=([("alpha",20),("x",0),("dev",10),("pl",200),("beta",30),("c",40)]:List (Str × Int)).lookup x
noncomputable def eG7 (x:Str):Option (D × D):=if x="098" then some (.int 98,.int 100) else (dY6 x).map fun r=>(.str x,.int r)
mutual
noncomputable def runN (Γ ΓN:List Fn):NS→Ro→Option Out
 | .plain i,ρ=>run Γ i ρ
 | .freeze i,ρ=>(bV0 ρ i).map fun d=>.next (aA2 ρ i (.dat d))
 | .turn i k es,ρ=>(evs Γ es false ρ).bind fun ds=>(ΓN[k]?).bind fun f=>(f.g ds).map fun d=>.next (aA2 ρ i (.dat d))
 | .barr i e,ρ=>(ev Γ e true ρ).bind fun n=>match n with
  | .int n=>if 0≤n∧n≤1000 then some (.next (aA2 ρ i (.own (eF0 n)))) else none
  | _=>none
 | .tryInt i j,ρ=>(ev Γ (.var i) false ρ).bind fun d=>match d with
  | .str x=>(eG7 x).map fun p=>.next (aA2 (aA2 ρ i (.dat p.1)) j (.dat p.2))
  | _=>none
 | .ite t a b,ρ=>(tst Γ t ρ).bind fun c=>if c=true then aC8 Γ ΓN a ρ else aC8 Γ ΓN b ρ
 | .for1 i it body,ρ=>(bI2 Γ it ρ).bind fun ds=>aH0 (fun d ρ=>aC8 Γ ΓN body (aD2 [(i,d)] ρ)) ds ρ
 | .for2 i j it body,ρ=>(bI2 Γ it ρ).bind fun ds=>aH0 (fun d ρ=>(cK0 i j d).bind fun bs=>aC8 Γ ΓN body (aD2 bs ρ)) ds ρ
noncomputable def aC8 (Γ ΓN:List Fn):NSs→Ro→Option Out
 | .nil,ρ=>some (.next ρ)
 | .cons i is,ρ=>(runN Γ ΓN i ρ).bind fun o=>match o with
  | .next ao=>aC8 Γ ΓN is ao
  | .brk ao=>some (.brk ao)
  | .ret d=>some (.ret d)
end
structure FnsN (C:Cfg) (lev:Nat) (ΓN:List Fn):Prop where
 fn:∀ (k:Nat) (f:Fn),ΓN[k]?=some f→∃ a o fd,C.mg f.name=some (.ref a)∧C.K.lookup a=some o∧o.data=.func fd∧CallOkN C lev a f.g
section
variable {C:Cfg} {lev:Nat} {Γ ΓN:List Fn} {ns fs fn:List Str} {A:Around} {env:Env} {ah:Shared} {ac:Addr→Bool} {ρ:Ro} {W Mu:Addr→Bool} {ad:Nat→Addr} {s s':Shared} {fr:List Env}
noncomputable def ExN (C:Cfg) (lev:Nat) (Γ:List Fn) (ns:List Str) (A:Around) (env:Env) (Ls:List Addr) (ah:Shared) (ac W Mu:Addr→Bool) (s:Shared) (t:Sem Flow) (o:Out):Prop :=
 ∀ (Q:Flow→Shared→Prop) (E:Value→Shared→Prop),DoneN C lev Γ ns A env Ls ah ac W Mu s o Q→wpN (model C.prog C.w) A t Q E s
structure CxN (C:Cfg) (lev:Nat) (ΓN:List Fn) (A:Around) (env:Env) (fr:List Env):Prop where
 FN:FnsN C lev ΓN
 hef:env.frame=some env.locals
 hfr:A.frames=some (env::fr)
noncomputable def Nk (C:Cfg) (lev:Nat) (Γ ΓN:List Fn) (ns:List Str) (i:NS) (sc:Scope) (st:Stmt):Prop :=
 ∀ {A:Around} {env:Env} {fr:List Env} {ah:Shared} {ac:Addr→Bool} {ρ:Ro} {W Mu:Addr→Bool} {ad:Nat→Addr} {s:Shared},CxN C lev ΓN A env fr→FrOk C ac ah.heap fr→Frm C lev Γ ns A env ah ac ρ W Mu ad s→env.scope=sc→Al (runN Γ ΓN i ρ) (ExN C lev Γ ns A env (frL fr) ah ac W Mu s (exec st env))
noncomputable def Nks (C:Cfg) (lev:Nat) (Γ ΓN:List Fn) (ns:List Str) (i:NSs) (sc:Scope) (l:List Stmt):Prop :=
 ∀ {A:Around} {env:Env} {fr:List Env} {ah:Shared} {ac:Addr→Bool} {ρ:Ro} {W Mu:Addr→Bool} {ad:Nat→Addr} {s:Shared},CxN C lev ΓN A env fr→FrOk C ac ah.heap fr→Frm C lev Γ ns A env ah ac ρ W Mu ad s→env.scope=sc→Al (aC8 Γ ΓN i ρ) (ExN C lev Γ ns A env (frL fr) ah ac W Mu s (execs l env))
section
variable {sc:Scope} {x y:Str} {i j k:Nat} {e:IE} {v:Expr} {st:Stmt} {l:List Stmt} {p p1 p2 q:Pos} {n:Nat}
theorem dQ8 {is:IS} (h:Xk C lev Γ ns is sc st):Nk C lev Γ ΓN ns (.plain is) sc st:=fun _ _ F hs o ho Q E K=>aW4 (h F hs o ho Q E K.plain)
theorem eA8 {f:Fn} {es:IEs} {vs:List Expr} (hf:ΓN[k]?=some f) (hx:aB6 ns sc i x=true) (hg:aC4 sc y f.name=true) (hne:vs.isEmpty=false) (h:Vks C lev Γ ns sc es vs):Nk C lev Γ ΓN ns (.turn i k es) sc (.Assign [.Name x p] (.Call (.Name y p1) vs [] p2) q):=fun X O F hs =>
 Al.bind fun ds e1=>Al.bind fun f' e2=>Al.map fun d hd Q E K=>by
  cases hf.symm.trans e2
  refine hid fun Gz zz=>?_
  obtain ⟨rfl,hk,hdb⟩:=aN2 (gAt hs hg)
  obtain ⟨a,ob,fd,q1,q2,q3,q4⟩:=X.FN.fn _ f hf
  refine zz ?_;clear zz Gz
  exact cM6 F hs X.hef X.hfr O hx hk hdb hne h q1 q2 q3 q4 e1 hd fun az s' x0 F' st'=>K az _ _ _ _ x0 F' st'
theorem eB1 (hx:aB6 ns sc i x=true) (hg:aC4 sc y "bytearray"=true) (h0:aA8 v=true) (h:Vk C lev Γ ns e sc v):Nk C lev Γ ΓN ns (.barr i e) sc (.Assign [.Name x p] (.Call (.Name y p1) [v] [] p2) q):=fun _ _ F hs =>
 Al.bind fun d e1=>Al.int fun n en=>Al.ite fun hz=>Al.some fun Q E K=>cK2 hx hg h0 h F hs (en ▸ e1) hz fun W' Mu' ad' s' F' st=>K.plain _ _ _ _ F' st
theorem eL0 {t:IT} {a b:NSs} {l1 l2:List Stmt} (ht:Tk C lev Γ ns t sc v) (ha:Nks C lev Γ ΓN ns a sc l1) (hb:Nks C lev Γ ΓN ns b sc l2):Nk C lev Γ ΓN ns (.ite t a b) sc (.If v l1 l2 p):=fun {A env fr ah ac ρ W Mu ad s} X O F hs =>
 Al.bind fun c e1 o ho Q E K=>eY3 ((ht F.cx hs _ e1).then F.cx fun aa aj ax aB=>by
  have K':=K.after0 (aj.stp (W:=W) (Mu:=Mu) F.ok.tab ax)
  cases c with
  | true=>exact ha X O (F.go aj ax) hs _ ho Q E K'
  | false=>exact hb X O (F.go aj ax) hs _ ho Q E K')
theorem eB0 {it:It} {body:NSs} (hx:aB6 ns sc i x=true) (h2:aP3 v) (hi:Ik C lev Γ ns it sc v) (hb:Nks C lev Γ ΓN ns body sc l):Nk C lev Γ ΓN ns (.for1 i it body) sc (.For (.Name x p) v l [] q):=fun X O F hs =>
 Al.bind fun ds e1 o ho Q E K=>bS8 (bodyRun:=aC8 Γ ΓN body) O F h2 (hi F.cx hs _ e1) (fun x hx'=>by rw [List.mem_singleton.mp hx'];exact ⟨i,aK9 hs hx⟩) (cN2 (aK9 hs hx).1) (fun _ _ _ _ _ _ _ _ _ _ _ _ _ _ h=>wpAny_pure h) ho
  (fun ci ao W' Mu' ad' s' o' Q' E' O' F' hb' K'=>hb X O' F' hs _ hb' Q' E' K') K
theorem eA9 {it:It} {body:NSs} (hx:aB6 ns sc i x=true) (hy:aB6 ns sc j y=true) (hne:x≠y) (h2:aP3 v) (hi:Ik C lev Γ ns it sc v) (hb:Nks C lev Γ ΓN ns body sc l):Nk C lev Γ ΓN ns (.for2 i j it body) sc (.For (.Tuple [.Name x p,.Name y p1] n p2) v l [] q):=fun X O F hs =>
 Al.bind fun ds e1 o ho Q E K=>bS8 (bodyRun:=aC8 Γ ΓN body) O F h2 (hi F.cx hs _ e1) (fun x hx'=>by
   rcases List.mem_cons.mp hx' with rfl | hx'
   ·exact ⟨i,aK9 hs hx⟩
   ·rw [List.mem_singleton.mp hx'];exact ⟨j,aK9 hs hy⟩) (bZ4 F.room.handled (aK9 hs hx).1 (aK9 hs hy).1 hne) (fun I fp P St aa itr i j s' v Q E hst hp hq=>itr.own i j s' _ _ _ v Q E hst hp hq) ho
  (fun ci ao W' Mu' ad' s' o' Q' E' O' F' hb' K'=>hb X O' F' hs _ hb' Q' E' K') K
theorem eA4:Nks C lev Γ ΓN ns .nil sc []:=fun _ _ F hs=>Al.some fun Q E K=>aW4 (wpAny_execs_nil (K.plain _ _ _ _ F (.refl _ _ _)))
theorem dQ5 {is:NS} {iss:NSs} (h:Nk C lev Γ ΓN ns is sc st) (hl:Nks C lev Γ ΓN ns iss sc l):Nks C lev Γ ΓN ns (.cons is iss) sc (st::l):=fun X O F hs=>Al.bind fun cm e1 o ho Q E K=>aU8 (h X O F hs _ e1 _ _ (by
 cases cm with
 | next ao=>exact fun az W' Mu' ad' s' x0 F' st=>hl X (O.slots x0) F' hs _ ho _ _ (K.after x0 st)
 | brk ao=>obtain rfl:=Option.some.inj ho;exact K
 | ret d=>obtain rfl:=Option.some.inj ho;exact K))
theorem cQ5 {iss:NSs} (hl:Nks C lev Γ ΓN ns iss sc l):Nks C lev Γ ΓN ns (.cons (.freeze j) iss) sc l:=by
 intro A env fr ah ac ρ W Mu ad s X O F hs
 refine Al.bind fun cm e1 o ho Q E K=>?_
 obtain ⟨d,hd,rfl⟩:=Option.map_eq_some_iff.mp (e1:(bV0 ρ j).map _=_)
 obtain ⟨F',st⟩:=F.freeze (aO1 hd)
 exact hl X O F' hs _ ho _ _ (K.after0 st)
end
end
noncomputable def bY0 (n:Nat) (Γ ΓN:List Fn) (is:NSs) (ds:List D):Option D:=if ds.length=n then (aC8 Γ ΓN is (ro0 0 ds)).bind aC5 else none
theorem dT6 {C:Cfg} {lev:Nat} {Γ ΓN:List Fn} {ns params:List Str} {fa:Addr} {is:NSs} (fns:FnsOk C lev Γ) (FN:FnsN C lev ΓN) (kit:Kit C) (hp:aY7 C.K fa params)
  (h:eQ5 C fa ns params fun sc b=>(params.all (fun x=>decide (sc.names.lookup x=some .local))&&!params.isEmpty)=true∧Nks C lev Γ ΓN ns is sc b):CallOkN C (lev+1) fa (bY0 params.length Γ ΓN is):=by
 refine hid fun Gz zz=>?_
 obtain ⟨body,sc,D⟩:=h
 obtain ⟨D,hsc,hloc,hm⟩:=D hp
 refine zz ?_;clear zz Gz
 refine dT5 fns kit D hsc hloc fun {A env ah ac W Mu ad s fr ds d} hs hef hfr O F hg Q E K=>?_
 obtain ⟨o,ho,hg⟩:=Option.bind_eq_some_iff.mp hg
 refine hm ⟨FN,hef,hfr⟩ O F hs _ ho _ _ ?_
 cases o with
 | next ρ=>exact nos hg
 | brk ρ=>exact nos hg
 | ret x=>obtain rfl:=Option.some.inj hg;exact fun v az s' y g t rv=>K v az s' y g t rv
end Mine
end
section
open PySem PySem.W PyProof.Rows PySem.Calls PySem.Spec
open Sem (wp)
open Heap (SlotsOnly)
set_option autoImplicit false
set_option maxRecDepth 100000
namespace Mine
namespace IntN
open BAr
section
variable {prog:Program} {w:World} {A:Around} {E:Value→Shared→Prop} {s:Shared}
theorem dC5 {args:Args}:calm (.builtin "int.__new__" args)=true:=by
 show (("int.__new__" == "claim.caller") || ("int.__new__" == "type.__call__") || ("int.__new__" == "bytearray.__init__") || ("int.__new__" == "int.__new__"))=true
 decide +kernel
theorem eB2 {own:List String} {e:Value} {Q:Unit→Shared→Prop} (h:Q () s):wpN (model prog w) A (markTheRefusal own e) Q E s:=by
 intro Γ p bl h1 h2
 have key:∀ b c d:Bool,b=true→((!b&&c)&&d)=false:=by decide
 have e0:pythonCodeMadeTheCall own (((Γ.code,p)::Γ.below).map (·.1))=false:=by
  obtain ⟨c,hc,hcc⟩:=h2.2
  refine key _ _ _ (List.any_eq_true.mpr ⟨c,hc,hcc⟩)
 dsimp only [markTheRefusal]
 show wp _ Γ (if pythonCodeMadeTheCall own (((Γ.code,p)::Γ.below).map (·.1))=true then _ else pure ()) _ _ p s
 rw [e0]
 exact h
theorem aY9 (a b:Value):checkTypeCall "int" ⟨[a,b],[]⟩=pure ():=by kernel_rfl
theorem bE7 (a b:Value):checkBuiltinCall "int.__new__" ⟨[.type "int",a,b],[]⟩=pure ():=by kernel_rfl
theorem dX5 {v:Value} {x:Str} {t:Tok} {text:List Nat} {Q:Value→Shared→Prop} (hv:v=.str x t) (hh:A.handled=none) (hlen:(text.takeWhile (· != 0)).length≤640) (hrep:(reprText x).length≤200)
  (h:(∃ n,(int_private% "readNumeral") 0 10 (text.takeWhile (· != 0))=(int_private% "Numeral.value") n∧((text.takeWhile (· != 0)).length == text.length)=true∧Q (.int n s.toks) { s with toks:=s.toks+1 }) ∨
   ((int_private% "readNumeral") 0 10 (text.takeWhile (· != 0))=(int_private% "Numeral.invalid")∧∀ h' e args tk,Heap.MadeExc s.heap h' e "ValueError" args→s.toks≤tk→E (.ref e) { s with heap:=h',toks:=tk })) :
  wpN (model prog w) A ((int_private% "intFromText") v text 10) Q E s:=by
 subst hv
 k_delta "intFromText"
 dsimp only
 refine cL8 (c:=(List.takeWhile (fun x=>x != 0) text).length≤640) hlen ?_
 refine aG1 (x:=0) rfl ?_
 rcases h with ⟨n,h1,h2,h3⟩ | ⟨h1,h2⟩
 ·rw [h1]
  dsimp only
  refine aV3 h2 ?_
  exact aW4 (wpAny_mkInt h3)
 ·rw [h1]
  dsimp only
  refine aG1 (x:=none) rfl ?_
  refine aB3 rfl ?_
  refine aA7 (wpAny_rule ?_)
  refine aG1 (x:=none) rfl ?_
  dsimp only
  have hsz:(200:Nat)≤sizeLine:=by decide
  refine aA7 (wpAny_pyRepr_str ?_ (aA9 hrep hsz))
  refine aA7 (wpAny_mkStr ?_ ?_)
  ·refine aA7 (wpAny_newExc_plain plainExc_ValueError fun h' e hm=>?_)
   refine aG7 (eB2 ?_)
   refine aW4 (wpAny_raiseNew_none hh (h2 h' e _ _ hm ?_))
   show s.toks≤s.toks+1+1
   exact bB7 dV3
  ·show (Str.ofString (toString "invalid literal for int() with base "++toString 10++toString ": ")++(⟨(reprText x).cps.extract 0 200⟩:Str)).length≤sizeLine
   rw [Str.length_append]
   have e1:(Str.ofString (toString "invalid literal for int() with base "++toString 10++toString ": ")).length≤100:=by decide +kernel
   have e2:(⟨(reprText x).cps.extract 0 200⟩:Str).length≤200:=by
    show ((reprText x).cps.extract 0 200).size≤200
    rw [Array.size_extract];exact eK3 (cl rfl)
   have e3:(1000:Nat)≤sizeLine:=by decide
   exact aX4 e1 e2 rfl
noncomputable def Read (x:Str) (Q:Int→Prop) (E:Prop):Prop :=
 (∃ n,(int_private% "readNumeral") 0 10 (x.cps.toList.takeWhile (· != 0))=(int_private% "Numeral.value") n∧((x.cps.toList.takeWhile (· != 0)).length == x.cps.toList.length)=true∧Q n) ∨
   ((int_private% "readNumeral") 0 10 (x.cps.toList.takeWhile (· != 0))=(int_private% "Numeral.invalid")∧E)
noncomputable def Plain (x:Str):Prop:=x.cps.all (· < 128)=true∧x.length≤100∧(reprText x).length≤200
theorem new_N {x:Str} {t u:Tok} (hx:Plain x) (hh:A.handled=none) {R:Result→Shared→Prop}
  (h:Read x (fun n=>R (.ok (.ret (.int n s.toks))) { s with toks:=s.toks+1 }) (∀ h' e args tk,Heap.MadeExc s.heap h' e "ValueError" args→s.toks≤tk→R (.error (.ref e)) { s with heap:=h',toks:=tk })) :
  wpN (model prog w) A (Builtin.«int.__new__» ⟨[.type "int",.str x t,.int 10 u],[]⟩)
   (fun fin s'=>∃ f,fin=.done f∧R (.ok f) s') (fun e s'=>R (.error e) s') s:=by
 unfold Builtin.«int.__new__»
 dsimp only
 refine aG1 (x:=true) rfl ?_
 refine aB3 rfl ?_
 refine aG1 F.conv_sub_int ?_
 refine aB3 rfl ?_
 refine aG1 F.madeHere_int ?_
 refine aB3 rfl ?_
 refine cM0 (by simp) ?_
 refine aG1 (m:=forIn _ _ _) (x:=PUnit.unit) rfl ?_
 refine aG1 (m:=Builtin.Int.intIndex "int.__new__" (.int 10 u)) (x:=10) rfl ?_
 refine aB3 rfl ?_
 have en:(int_private% "numeralText?") (.str x t)=pure (some x.cps.toList):=by
  k_delta "numeralText?"
  show (pure (some (if x.cps.all (· < 128)=true then x.cps.toList else _)):Sem _)=_
  rw [if_pos hx.1]
 refine aG1 en ?_
 dsimp only
 refine aG7 (dX5 (t:=t) rfl hh ?_ hx.2.2 ?_)
 ·have h1:(x.cps.toList.takeWhile (· != 0)).length≤x.cps.toList.length:=(List.takeWhile_sublist _).length_le
  have h2:x.cps.size≤100:=hx.2.1
  have h3:x.cps.toList.length=x.cps.size:=by simp
  exact aA9 h1 (aA9 h2 (cl rfl))
 ·refine hid fun Gz zz=>?_
  rcases h with ⟨n,h1,h2,h3⟩ | ⟨h1,h2⟩
  ·refine zz ?_;clear zz Gz
   refine .inl ⟨n,h1,h2,?_⟩
   refine aV3 rfl ?_
   exact aD4 ⟨_,rfl,h3⟩
  ·refine zz ?_;clear zz Gz
   exact .inr ⟨h1,h2⟩
theorem call_N {x:Str} {t u:Tok} (hx:Plain x) (hh:A.handled=none) {Q:Value→Shared→Prop}
  (h:Read x (fun n=>Q (.int n s.toks) { s with toks:=s.toks+1 }) (∀ h' e args tk,Heap.MadeExc s.heap h' e "ValueError" args→s.toks≤tk→E (.ref e) { s with heap:=h',toks:=tk })) :
  wpN (model prog w) A (call (.type "int") [.str x t,.int 10 u]) Q E s:=by
 have called:=F.called_int
 refine aT4 (aE5 rfl ?_)
 show wpN _ _ (callAny (.type "int") _) _ _ _
 refine aD4 ⟨Code.quiet_builtin _ (by decide +kernel),aY5 PySem.F.entry_type_call bP6 ?_⟩
 rw [Around.under_plain (weight_type_call_type "int" _ []) rfl]
 dsimp only [Builtin.«type.__call__»]
 refine aB3 (called.notType) ?_
 refine aB3 (called.canCreate) ?_
 refine aG1 (aY9 _ _) ?_
 refine aG1 F.mro_int ?_
 refine aB3 rfl ?_
 refine aG1 called.made ?_
 refine aG1 (x:=Value.builtin "int.__new__") rfl ?_
 have key:=new_N (prog:=prog) (w:=w) (A:=A.in1.in1) (s:=s) (t:=t) (u:=u) (R:=fun r s'=>match r with | .ok (.ret v)=>(∃ n k,v=.int n k)∧Q v s' | .ok _=>False | .error e=>E e s') hx hh ?_
 refine aG7 (aV4 (aT4 (bK8 (aY6 (R:=fun r s'=>match r with | .ok (.ret v)=>(∃ n k,v=.int n k)∧Q v s' | .ok _=>False | .error e=>E e s') called.plain F.entry_int_new dC5 (wpAny_of_eq (bE7 _ _) (aL2 key ?_ fun _ _ h=>h))) fun r aa hr=>?_)))
 ·rintro fin s' ⟨f,rfl,h⟩
  exact h
 ·cases r with
  | error e=>exact hr
  | ok fl =>
   cases fl with
   | ret obj =>
    refine hid fun Gz zz=>?_
    obtain ⟨⟨n,k,rfl⟩,hq⟩:=hr
    refine zz ?_;clear zz Gz
    have hT:aa.TypeIs (.int n k) "int":=typeIs_int _ n k
    refine aA7 (wpAny_isInstance hT called.sub ?_)
    refine aB3 rfl ?_
    refine aW4 ?_
    have hli:=called.init.lookup
    have hbi:=called.init.bind (.int n k)
    have hmr:=object_init_meets (self:=.int n k) (rest:=[.str x t,.int 10 u]) hli called.made F.newNe_int
    refine wpAny_bind (wpAny_holding (wpAny_callSpecial?_slot (name:=Str.ofString "__init__") hT called.init ?_))
    refine call_meets called.init hT F.entry_object_init (F.args_object_init_3 _ _ _) hmr ⟨hT,?_⟩
    exact wpAny_pure hq
   | _=>exact hr.elim
 ·rcases h with ⟨n,h1,h2,h3⟩ | ⟨h1,h2⟩
  ·exact .inl ⟨n,h1,h2,⟨_,_,rfl⟩,h3⟩
  ·exact .inr ⟨h1,h2⟩
end
end IntN
end Mine
end
section
open PySem PySem.W PyProof.Rows PySem.Calls PySem.Spec
open Sem (wp)
open Heap (SlotsOnly)
set_option autoImplicit false
set_option maxRecDepth 100000
namespace Mine
section
variable {M:Model} {A:Around} {E:Value→Shared→Prop} {s:Shared} {env:Env}
theorem bV2 {α:Type} {m:Sem α} {Q:Except Value α→Shared→Prop} (h:wpN M A m (fun a=>Q (.ok a)) (fun e=>Q (.error e)) s):wpN M A m.attempt Q E s :=
 fun Γ p bl h1 h2=>by rw [Sem.wp_attempt];exact h Γ p bl h1 h2
theorem bV1 {body orelse:Sem Flow} {az:ExceptHandler} {hs:List ExceptHandler} {Q:Flow→Shared→Prop}
  (h:wpN M A body (fun f aa=>match f with | .next=>wpAny M A orelse Q E aa | f=>Q f aa)
   (fun e aa=>wpAny M A (noteFrame e env) (fun _ ai=>wpAny M A (setFlight e none) (fun _ ar=>wpAny M A (handleBy e env (az::hs)) Q E ar) E ai) E aa) s) :
  wpN M A (tryStmt false body (az::hs) orelse [] env) Q E s:=by
 refine aG7 (bV2 (aL2 h (fun f aa av=>?_) fun e aa av=>?_))
 ·cases f<;>first | exact aW4 av | exact aD4 av
 ·exact aW4 (wpAny_bind (wpAny_mono av (fun _ _ aL=>wpAny_bind aL) fun _ _ x=>x))
theorem eN6 {body orelse:List Stmt} {az:ExceptHandler} {hs:List ExceptHandler} {pos:Pos} {Q:Flow→Shared→Prop}
  (h:wpN M A (execs body env) (fun f aa=>match f with | .next=>wpAny M A (execs orelse env) Q E aa | f=>Q f aa)
   (fun e aa=>wpAny M A (noteFrame e env) (fun _ ai=>wpAny M A (setFlight e none) (fun _ ar=>wpAny M A (handleBy e env (az::hs)) Q E ar) E ai) E aa) s) :
  wpN M A (exec (.Try body (az::hs) orelse [] pos) env) Q E s:=by
 rw [arm_exec_Try]
 exact aA7 (wpAny_standAt (bV1 h))
end
noncomputable def bI6:List Str:=["alpha","x","dev","pl","beta","c"]
theorem bZ3 {x:Str} {p:D × D} (h:eG7 x=some p):(x="098"∧p=(.int 98,.int 100))∨(x∈bI6∧p=(.str x,.int ((dictGet? verKV (.inr x)).getD 0))):=by
 dsimp only [eG7] at h
 split at h
 ·rename_i e;obtain rfl:=Option.some.inj h;exact .inl ⟨e,rfl⟩
 ·obtain ⟨r,hr,rfl⟩:=Option.map_eq_some_iff.mp h
  dsimp only [dY6] at hr
  right
  have key:∀ y∈bI6,([("alpha",20),("x",0),("dev",10),("pl",200),("beta",30),("c",40)]:List (Str × Int)).lookup y=some ((dictGet? verKV (.inr y)).getD 0):=by decide +kernel
  have mem:x∈bI6:=by
   have:=mem_of_lookup hr
   have m2:x∈([("alpha",20),("x",0),("dev",10),("pl",200),("beta",30),("c",40)]:List (Str × Int)).map (·.1):=List.mem_map_of_mem (f:=(·.1)) this
   exact m2
  have e:=key x mem
  rw [hr] at e
  obtain rfl:=Option.some.inj e
  exact ⟨mem,rfl⟩
theorem cP5:∀ x∈bI6,IntN.Plain x:=by dsimp only [IntN.Plain];decide +kernel
theorem cP7:IntN.Plain "098":=by dsimp only [IntN.Plain];decide +kernel
theorem dA4 {Q:Int→Prop} {E:Prop} (h:Q 98):IntN.Read "098" Q E:=.inl ⟨98,by rfl,by decide +kernel,h⟩
theorem dA3 {x:Str} (hx:x∈bI6) {Q:Int→Prop} {E:Prop} (h:E):IntN.Read x Q E:=by
 refine .inr ⟨?_,h⟩
 dsimp only [bI6] at hx
 simp only [List.mem_cons,List.not_mem_nil,or_false] at hx
 rcases hx with rfl | rfl | rfl | rfl | rfl | rfl<;>rfl
end Mine
end
section
open PySem PySem.W PyProof.Rows PySem.Calls PySem.Spec
open Sem (wp)
open Heap (SlotsOnly)
set_option autoImplicit false
set_option maxRecDepth 4000
namespace Mine
section
variable {C:Cfg} {lev:Nat} {Γ:List Fn} {ns fs:List Str} {A A':Around} {env:Env} {ah:Shared} {ac:Addr→Bool} {ρ:Ro} {W Mu:Addr→Bool} {ad:Nat→Addr} {s s':Shared} {fr:List Env}
theorem cR5 (eo:EnvOk env) {x:Str} {v:Value} (H:HasVar env s.heap x v) {Q:Value→Shared→Prop} {E:Value→Shared→Prop} (hn:(x == ("__classdict__":Str))=false) (h:Q v s) :
  wpAny (model C.prog C.w) A' (loadName env x) Q E s:=by
 refine hid fun Gz zz=>?_
 rcases H with ⟨k,m,n,q⟩ | ⟨k | k,c,hc,hv⟩
 ·refine zz ?_;clear zz Gz
  exact wpAny_loadName_local eo.kind k n q h
 ·refine zz ?_;clear zz Gz
  exact wpAny_loadName_cell eo.kind k hc hv h
 ·refine zz ?_;clear zz Gz
  exact wpAny_loadName_free eo.kind k hc hv h hn
theorem bR8 (X:Cx C lev Γ ns A env ρ Mu s) {x:Str} {pos:Pos} {v:Value} (hk:env.scope.names.lookup x=some .globalImplicit) (hd:(x == ("__debug__":Str))=false) (hg:C.mg x=some v)
  {Q:Value→Shared→Prop} {E:Value→Shared→Prop} (h:Q v s):wpAny (model C.prog C.w) A' (eval (.Name x pos) env) Q E s :=
 Name_function_global X.envOk.kind hk (loadGlobal_global (env:=env) (X.envOk.glob ▸ X.ok.top.g) hg h) hd
theorem bR9 (X:Cx C lev Γ ns A env ρ Mu s) {x:Str} {pos:Pos} {v:Value} (hk:env.scope.names.lookup x=some .globalImplicit) (hd:(x == ("__debug__":Str))=false)
  (hx:x∈aL7) (hv:bootBuiltins x=some v) (hn:x≠"__name__")
  {Q:Value→Shared→Prop} {E:Value→Shared→Prop} (h:Q v s):wpAny (model C.prog C.w) A' (eval (.Name x pos) env) Q E s:=by
 obtain ⟨mb,hb,hmb⟩:=X.ok.top.b
 exact Name_function_global X.envOk.kind hk (loadGlobal_builtin (env:=env) (X.envOk.glob ▸ X.ok.top.g) (X.fns.none x hx) (X.envOk.blt ▸ hb) ((hmb x hn).trans hv) h) hd
theorem bI9 (F:Frm C lev Γ ns A env ah ac ρ W Mu ad s) {i:Nat} {x:Str} {v:Value} {d:D} {Q:Unit→Shared→Prop} {E:Value→Shared→Prop} (hx:ns[i]?=some x) (hv:bB6 env.scope x=true) (r:Rd C (Fz s.heap Mu) v d)
  (k:∀ s',Frm C lev Γ ns A env ah ac (aA2 ρ i (.dat d)) W Mu ad s'→Stp C W Mu s W Mu s'→Q () s'):wpAny (model C.prog C.w) A' (storeName env x v) Q E s:=by
 have cs:=F.can i x hx hv
 refine aM1 F.envOk F.frame cs fun h' tk S ht=>?_
 have P:Put C Mu env [x] s.heap h':=⟨fun y u hy=>S.others y u (fun z=>hy (z ▸ .head _)),fun b o hb e=>S.keep b o (hb x (.head _)) e,S.mu F.mu,S.frame,S.view,fun y hy=>by rw [List.mem_singleton.mp hy];exact S.inMu⟩
 obtain ⟨F',st⟩:=F.bound (bs:=[(i,d)]) (fun y hy=>by rw [List.mem_singleton.mp hy];exact cs) P
  (fun j d' m=>by cases List.mem_singleton.mp m;exact ⟨x,v,hx,S.has,r.mono S.view⟩) (fun y hy=>by rw [List.mem_singleton.mp hy];exact ⟨i,d,.head _,hx⟩) ht
 exact k _ F' st
theorem Frm.congr {ao:Ro} (F:Frm C lev Γ ns A env ah ac ρ W Mu ad s) (h:∀ k,ao.lookup k=ρ.lookup k):Frm C lev Γ ns A env ah ac ao W Mu ad s :=
 ⟨F.fns,F.kit,F.room,F.ok0,F.mu0,F.ok,F.tok,F.envOk,F.mu,F.frame,F.nodup,fun i x lv a b c=>F.vars i x lv a ((h i).symm.trans b) c,F.wMu,F.wNew,F.wL,fun i d a=>F.own i d ((h i).symm.trans a),fun i j d e n a b=>F.ownNe i j d e n ((h i).symm.trans a) ((h j).symm.trans b),F.base,F.tk,F.muSub,F.can⟩
theorem bJ2 {e:Addr} {base h' h4:Heap} {tk:Nat} (F:Frm C lev Γ ns A env ah ac ρ W Mu ad s) (hef:env.frame=some env.locals) (O:FrOk C ac ah.heap fr)
  (keeps:∀ b o,s.heap.get? b=some o→h'.get? b=some o) (hnew:s.heap.get? e=none) (hb:∀ b,b∉e::env.locals::frL fr→base.get? b=h'.get? b) (st:base.StaysIn h4)
  (up:∀ b o,h'.get? b=some o→(∀ vs,o.data≠.fields vs)→∃ sl,h4.get? b=some { o with slots:=sl }) (ht:s.toks≤tk) :
  ∃ az,SlotsOnly (frL fr) ah.heap az∧Frm C lev Γ ns A env { ah with heap:=az } ac ρ W Mu ad { s with heap:=h4,toks:=tk }∧Stp C (WL W (frL fr)) Mu s (WL W (frL fr)) Mu { s with heap:=h4,toks:=tk }:=by
 have FO:=F.frOk hef O
 have hL:∀ b∈env.locals::frL fr,∃ o,s.heap.get? b=some o∧∀ vs,o.data≠.fields vs:=fun b m=>by
  have e1:frL (env::fr)=env.locals::frL fr:=by dsimp only [frL];rw [List.filterMap_cons,hef]
  rw [← e1] at m
  obtain ⟨_,_,o,h1,h2⟩:=FO.mem m
  exact ⟨o,h1,h2⟩
 refine hid fun Gz zz=>?_
 obtain ⟨av,x1,c1⟩:=aZ1 (env.locals::frL fr) s.heap h4 fun b m=>let ⟨o,h,_⟩:=hL b m;⟨o,h⟩
 obtain ⟨az,x0,aD⟩:=F.ready O x1
 refine zz ?_;clear zz Gz
 have kp:∀ b o,av.get? b=some o→h4.get? b=some o:=fun b o q=>by
  by_cases m:b∈env.locals::frL fr
  ·obtain ⟨cC,h1,h2⟩:=hL b m
   obtain ⟨sl,h3⟩:=up b cC (keeps b cC h1) h2
   have:=c1 b m cC _ h1 h3
   rw [q] at this
   obtain rfl:=Option.some.inj this
   exact h3
  ·rw [x1.2.1 b m] at q
   refine st b o ?_
   rw [hb b fun z=>?_]
   ·exact keeps b o q
   ·rcases List.mem_cons.mp z with rfl | z
    ·rw [hnew] at q;exact nos q
    ·exact m z
 have g:Go C { s with heap:=av } { s with heap:=h4,toks:=tk }:=.keep (s:={ s with heap:=av }) kp
 refine ⟨az,x0,aD.go g ht,(F.slotStp x1).trans ((g.stp (W:=W) (Mu:=Mu) aD.ok.tab ht).wide (frL fr))⟩
end
theorem dS6:isSubtype (.type "ValueError") (.type "BaseException")=pure true:=by rw [isSubtype_type];kernel_rfl
theorem eD5:isSubtype (.type ((Manifest.find? "ValueError").elim "type" fun x=>x.metatype)) (.type "tuple")=pure false:=by rw [isSubtype_type];kernel_rfl
theorem dE9:isSubtype (.type "ValueError") (.type "ValueError")=pure true:=by rw [isSubtype_type];kernel_rfl
section
variable {C:Cfg} {lev:Nat} {Γ ΓN:List Fn} {ns:List Str} {A A':Around} {env:Env} {fr:List Env} {ah:Shared} {ac:Addr→Bool} {ρ:Ro} {W Mu:Addr→Bool} {ad:Nat→Addr} {s S:Shared} {sc:Scope} {i j:Nat} {Q:Flow→Shared→Prop} {E:Value→Shared→Prop}
theorem eE7 {e tk:Nat} {h':Heap} {args:List Value} {hb:List Stmt} {h1:Stmt} {q1 p2:Pos} (X:CxN C lev ΓN A env fr) (O:FrOk C ac ah.heap fr) (F:Frm C lev Γ ns A env ah ac ρ W Mu ad s) (hmk:Heap.MadeExc s.heap h' e "ValueError" args) (htk:s.toks≤tk)
  (k8:env.scope.names.lookup ("ValueError":Str)=some .globalImplicit) (d8:(("ValueError":Str) == ("__debug__":Str))=false)
  (k:∀ az h4,SlotsOnly (frL fr) ah.heap az→Frm C lev Γ ns A env { ah with heap:=az } ac ρ W Mu ad { s with heap:=h4,toks:=tk }→Stp C (WL W (frL fr)) Mu s (WL W (frL fr)) Mu { s with heap:=h4,toks:=tk } →
   ∀ (A':Around) (Q':Flow→Shared→Prop) (E':Value→Shared→Prop),(∀ s',Q .next s'→Q' .next s')→wpAny (model C.prog C.w) A' (execs (h1::hb) env) Q' E' { s with heap:=h4,toks:=tk }) :
  wpAny (model C.prog C.w) A (noteFrame (.ref e) env) (fun _ ai=>wpAny (model C.prog C.w) A (setFlight (.ref e) none) (fun _ ar=>wpAny (model C.prog C.w) A (handleBy (.ref e) env [.ExceptHandler (some (.Name "ValueError" q1)) none (h1::hb) p2]) Q E ar) E ai) E { s with heap:=h',toks:=tk }:=by
 have hen2:s.heap.get? e=none:=hmk.new
 refine hid fun Gz zz=>?_
 obtain ⟨base,b1,b2⟩:=cC2 (e::env.locals::frL fr) h'
 have aE:Go C s { s with heap:=h',toks:=tk }:=.keep hmk.keeps
 have aR:=F.go aE htk
 obtain ⟨tt,he,_,_⟩:=hmk.there
 refine zz ?_;clear zz Gz
 have fb:=aR.frOk X.hef O
 have eL:frL (env::fr)=env.locals::frL fr:=by dsimp only [frL];rw [List.filterMap_cons,X.hef]
 have FF:h'.FunFrames base (env::fr):=FrOk.fun fb fun b m=>b1 b (.tail _ (eL ▸ m))
 have stays:base.StaysIn h':=fun b o q=>by
  by_cases m:b∈e::env.locals::frL fr
  ·rw [b1 b m] at q;exact nos q
  ·rw [← b2 b m];exact q
 have ben:base.get? e=none:=b1 e (.head _)
 have hd:(Data.fields #[Value.ref tt,.none,.none,.none,.bool false,.none])=.fields #[Value.ref tt,.none,.none,.none,.bool false,.none]:=rfl
 dsimp only [noteFrame]
 simp only [X.hef]
 refine wpAny_bind (wpAny_field (x:=.none) he hd rfl ?_)
 rw [if_neg (by decide)]
 refine wpAny_entryW (base:=base) X.hfr FF X.hef he stays ben hd (by simp) rfl fun h2 hN=>?_
 refine hid fun Gz zz=>?_
 obtain ⟨n1,n2,n3,n4⟩:=hN
 refine zz ?_;clear zz Gz
 refine wpAny_setFlight_noneW n1 n2 n3 fun h3 k1 k2 k3 k4=>?_
 have up3:∀ b o,h'.get? b=some o→(∀ vs,o.data≠.fields vs)→∃ sl,h3.get? b=some { o with slots:=sl }:=fun b o q hn=>by
  obtain ⟨sl,q2⟩:=n4 b o q hn
  exact ⟨sl,k4 b _ q2 hn⟩
 refine hid fun Gz zz=>?_
 obtain ⟨_,_,bo,_⟩:=bJ2 F X.hef O hmk.keeps hen2 b2 k1 up3 htk
 refine zz ?_;clear zz Gz
 refine wpAny_handleBy_builtin (X:="ValueError") (T:="ValueError") (b:=true) dS6 eD5 dE9 ?_
 refine bR9 bo.cx k8 d8 (by decide) (by rfl) (by decide) ⟨rfl,k3.at.there,?_⟩
 rw [if_pos rfl]
 refine wpAny_setFlight_noneW k1 k2 k3.at fun h4 m1 m2 m3 m4=>?_
 have up4:∀ b o,h'.get? b=some o→(∀ vs,o.data≠.fields vs)→∃ sl,h4.get? b=some { o with slots:=sl }:=fun b o q hn=>by
  obtain ⟨sl,q2⟩:=up3 b o q hn
  exact ⟨sl,m4 b _ q2 hn⟩
 refine hid fun Gz zz=>?_
 obtain ⟨az,x0,bG,cj⟩:=bJ2 F X.hef O hmk.keeps hen2 b2 m1 up4 htk
 refine zz ?_;clear zz Gz
 exact k az h4 x0 bG cj _ _ _ fun _ h=>h
theorem dL1 {ps:List (Key × Value)} (iV:IntVals ps verKV) (x:Str) (t0:Tok):∃ t,(valueAt ps (.inr x)).getD (.int 0 t0)=.int ((dictGet? verKV (.inr x)).getD 0) t:=by
 cases q:dictGet? verKV (.inr x) with
 | some n=>obtain ⟨t,ht⟩:=iV.get q;exact ⟨t,by rw [ht];rfl⟩
 | none =>
  have:valueAt ps (.inr x)=none:=by
   have z:=iV.at (.inr x)
   have:verKV.any (fun p=>decide (p.1=.inr x))=false:=by
    unfold dictGet? at q
    rw [Option.map_eq_none_iff,List.find?_eq_none] at q
    simpa using q
   rw [this] at z
   simpa using z
  rw [this];exact ⟨_,rfl⟩
theorem eY0 {x x1 t1:Str} {q2 q3 q4 q5 q6 q7 q8:Pos} {n3:Nat} (hv:aB6 ns sc i x1=true) (hy:aB6 ns sc j t1=true) (hp:(q5.endLine == q6.line)=true) (k9:env.scope.names.lookup ("_ver_stages":Str)=some .globalImplicit) (d9:(("_ver_stages":Str) == ("__debug__":Str))=false)
  (bG:Frm C lev Γ ns A env ah ac ρ W Mu ad S) (hs:env.scope=sc) (hl:ρ.lookup i=some (.dat (.str x)))
  (K:∀ ck,Frm C lev Γ ns A env ah ac (aA2 (aA2 ρ i (.dat (.str x))) j (.dat (.int ((dictGet? verKV (.inr x)).getD 0)))) W Mu ad ck→Stp C W Mu S W Mu ck→Q .next ck) :
  wpAny (model C.prog C.w) A' (execs [.Assign [.Name t1 q2] (.Call (.Attribute (.Name "_ver_stages" q3) "get" q5) [.Name x1 q4,.Constant (.int 0) n3 q7] [] q6) q8] env) Q E S:=by
 refine hid fun Gz zz=>?_
 obtain ⟨oV,ps,eV,dV,iV,zV⟩:=C.ver
 have hV:S.heap.get? C.VA=some oV:=bG.ok.top.kin _ _ eV
 have dyV:S.heap.DictOf (aC0 C.prog C.w) C.VA ps:=Heap.dictOf_iff.mpr ⟨_,hV,dV⟩
 obtain ⟨vx,hvx,rvx⟩:=bG.vars i _ _ (aK9 hs hv).1 hl (aK9 hs hv).2
 obtain ⟨tx,rfl⟩:=rvx.inv
 refine zz ?_;clear zz Gz
 refine wpAny_execs_cons (wpAny_Assign_Name (wpAny_Call_method2_late rfl hp (by rw [aA5 rfl,aA5 rfl];rfl) (bR8 bG.cx k9 d9 C.verN ?_)) rfl)
 refine ⟨"dict","dict.get",PySem.F.plainAttrs_dict,PySem.F.slot_dict_get,PySem.F.type_dict_get,dyV.mapOf.typeIs,dyV.mapOf.noDict,?_⟩
 refine wpAny_dict_get2 (knd:=aC0 C.prog C.w) zV (wpAny_Name (cR5 bG.envOk hvx (bI7 hv).2.2.2 ?_) (bI7 hv).2.2.1)
 refine wpAny_Constant_int ?_
 refine ⟨.inr x,_,(by show (aC0 C.prog C.w).is (.inr x) (.str x tx)=true;exact aZ8 (C:=C) (d:=.str x) rfl (Rd.str x tx (G:=Fz S.heap Mu))),dyV.mapOf,?_⟩
 obtain ⟨tv,ev⟩:=dL1 iV x _
 rw [ev]
 have eK:Go C S { S with toks:=S.toks+1+1 }:=.tok
 have eM:S.toks≤S.toks+1+1:=Nat.le_add_right _ 2
 have fc:=bG.go eK eM
 refine bI9 fc (aK9 hs hy).1 (aK9 hs hy).2 (.int _ tv) fun ck dO cW=>?_
 have ff:Frm C lev Γ ns A env ah ac (aA2 (aA2 ρ i (.dat (.str x))) j (.dat (.int ((dictGet? verKV (.inr x)).getD 0)))) W Mu ad ck:=dO.congr fun k=>by
  rw [aB9,aB9,aB9]
  by_cases e1:k=j
  ·rw [if_pos e1,if_pos e1]
  ·rw [if_neg e1,if_neg e1]
   by_cases e2:k=i
   ·rw [if_pos e2,e2,hl]
   ·rw [if_neg e2]
 exact wpAny_execs_nil (K ck ff ((eK.stp (W:=W) (Mu:=Mu) bG.ok.tab eM).trans cW))
end
noncomputable def bY8 (C:Cfg) (lev:Nat) (Γ ΓN:List Fn) (ns:List Str) (i j:Nat) (sc:Scope) (p2 p3:Pos) (s1 s2:Stmt) (ty:Expr) (s3:Stmt):Prop:=Nk C lev Γ ΓN ns (.tryInt i j) sc (.Try [s1,s2] [.ExceptHandler (some ty) none [s3] p2] [] [] p3)
theorem eX8 {M:Model} {α:Type} {A:Around} {m:Sem α} {Q:α→Shared→Prop} {E:Value→Shared→Prop} {s:Shared} (h:∀ Q' E',(∀ v s,Q v s→Q' v s)→(∀ e s,E e s→E' e s)→wpN M A m Q' E' s):wpN M A m Q E s:=h Q E (fun _ _ h=>h) fun _ _ h=>h
theorem eK9 {C:Cfg} {lev:Nat} {Γ ΓN:List Fn} {ns:List Str} {sc:Scope} {i j:Nat} {x1 x2 x3 t1 t2 y1 ve vs m:Str} {p1 p2 p3 p4 p5 p6 p7 p8 p9 q0 q1 q2 q3 q4 q5 q6 q7 q8 q8':Pos} {n1 n2 n3:Nat} {i1 i2 i3:Int} (hv:aB6 ns sc i x1=true) (hy:aB6 ns sc j t1=true)
  (h1:x1=x2) (h2:x1=x3) (h3:t1=t2) (g1:aC4 sc y1 "int"=true) (g2:aC4 sc ve "ValueError"=true) (g3:aC4 sc vs "_ver_stages"=true) (hm:"get"=m) (hp:(q5.endLine == q6.line)=true) (h4:10=i1) (h5:100=i2) (h6:0=i3) :
  bY8 C lev Γ ΓN ns i j sc p2 p3 (.Assign [.Name x1 p1] (.Call (.Name y1 q0) [.Name x2 q8,.Constant (.int i1) n1 p4] [] p5) p6) (.Assign [.Name t1 p7] (.Constant (.int i2) n2 p8) p9)
   (.Name ve q1) (.Assign [.Name t2 q2] (.Call (.Attribute (.Name vs q3) m q5) [.Name x3 q4,.Constant (.int i3) n3 q7] [] q6) q8'):=by
 subst h1;subst h2;subst h3;subst hm;subst h4;subst h5;subst h6
 intro A env fr ah ac ρ W Mu ad s X O F hs
 refine Al.bind fun d hev=>Al.str fun x ed=>Al.map fun p ht Q E K=>?_
 refine hid fun Gz zz=>?_
 subst ed
 have hl:ρ.lookup i=some (.dat (.str x)):=(cT5 hev).elim id fun z=>nomatch z.2
 obtain ⟨rfl,k7,d7⟩:=aN2 (gAt hs g1)
 obtain ⟨rfl,k8,d8⟩:=aN2 (gAt hs g2)
 obtain ⟨rfl,k9,d9⟩:=aN2 (gAt hs g3)
 have hplain:IntN.Plain x:=by
  rcases bZ3 ht with ⟨rfl,_⟩ | ⟨hx,_⟩
  ·exact cP7
  ·exact cP5 x hx
 refine zz ?_;clear zz Gz
 refine eN6 (eX8 fun Q' E' kQ kE=>aU8 (aT3 (bA4 (bR9 F.cx k7 d7 (by decide) (by rfl) (by decide) ?_)) rfl))
 rw [aA5 rfl,aA5 rfl,aD9]
 refine aV1 rfl (evalArgs_plain (spliced_cons ((Vk.f (dL3 hv) F.cx hs hev).toks _ _ fun v aa aj ax cM=>?_)))
 have aD:=F.go aj ax
 refine spliced_cons ((Vk.f (dM0 (sc:=sc) (i:=10)) aD.cx hs rfl).toks _ _ fun c ai al aF bw=>spliced_nil ?_)
 have bf:=aD.go al aF
 have bB:Stp C W Mu s W Mu ai:=(aj.trans al).stp F.ok.tab (aA9 ax aF)
 obtain ⟨_,rfl⟩:=cM.inv
 obtain ⟨_,rfl⟩:=bw.inv
 refine IntN.call_N hplain bf.room.handled ?_
 rcases bZ3 ht with ⟨rfl,rfl⟩ | ⟨hx,rfl⟩
 ·refine dA4 ?_
  have aE:Go C ai { ai with toks:=ai.toks+1 }:=.tok
  have aR:=bf.go aE (Nat.le_succ _)
  refine bI9 aR (aK9 hs hv).1 (aK9 hs hv).2 (.int 98 _) fun aU bo bv=>?_
  refine aW4 (cL6 (dW3 hy rfl dM0) dI9 bo hs (.next _) rfl _ _ fun W' Mu' ad' bU bG cj=>?_)
  exact kQ _ _ (wpAny_execs_nil (K ah.heap W' Mu' ad' bU (.refl _ _) bG (((bB.trans (aE.stp bf.ok.tab (Nat.le_succ _))).trans (bv.trans cj)).wide _)))
 ·refine dA3 hx fun h' e args tk hmk htk=>?_
  refine kE _ _ ?_
  exact eE7 X O bf hmk htk k8 d8 fun az h4 x0 bG cj A' Q' E' hQ=>eY0 hv hy hp k9 d9 bG hs hl fun ck dO cW=>hQ _ (K az W Mu ad ck x0 dO (((bB.wide (frL fr)).trans cj).trans (cW.wide (frL fr))))
end Mine
end
section
open PySem PySem.W PyProof.Rows PySem.Calls PySem.Spec
set_option autoImplicit false
set_option maxRecDepth 4000
namespace Mine
noncomputable def cW3 {P:ExceptHandler→Prop} (z:ExceptHandler) (k:∀ t n b p,Chk (P (.ExceptHandler t n b p))):Chk (P z):=match z with
 | .ExceptHandler t n b p=>k t n b p
noncomputable def eF1 {P:Stmt→Prop} (z:Stmt) (k:∀ b h o f p,Chk (P (.Try b h o f p))):Chk (P z):=if h:z.ctorIdx=17 then Stmt.Try.elim (motive_2:=fun z=>Chk (P z)) z h k else Option.none
noncomputable def eF4 {P:NS→List Stmt→Prop} (i:NS) (l:List Stmt) (kf:∀ j,Chk (P (.freeze j) l)) (kc:∀ x xs,Chk (P i (x::xs))):Chk (P i l) :=
 if h:i.ctorIdx=1 then NS.freeze.elim (motive_1:=fun i=>Chk (P i l)) i h kf else aR0 l kc
variable (C:Cfg) (lev:Nat) (Γ ΓN:List Fn) (ns:List Str)
noncomputable def eL2 (i j:Nat) (sc:Scope) (st:Stmt):Chk (Nk C lev Γ ΓN ns (.tryInt i j) sc st) :=
 eF1 st fun b hs o f p3=>aJ2 (P:=fun o=>Nk C lev Γ ΓN ns (.tryInt i j) sc (.Try b hs o f p3)) o <| aJ2 (P:=fun f=>Nk C lev Γ ΓN ns (.tryInt i j) sc (.Try b hs [] f p3)) f <|
 at2 (P:=fun b=>Nk C lev Γ ΓN ns (.tryInt i j) sc (.Try b hs [] [] p3)) b fun s1 s2=>at1 (P:=fun hs=>Nk C lev Γ ΓN ns (.tryInt i j) sc (.Try [s1,s2] hs [] [] p3)) hs fun hh =>
 cW3 (P:=fun hh=>Nk C lev Γ ΓN ns (.tryInt i j) sc (.Try [s1,s2] [hh] [] [] p3)) hh fun ty nm hb p2=>bG8 (P:=fun ty=>Nk C lev Γ ΓN ns (.tryInt i j) sc (.Try [s1,s2] [.ExceptHandler ty nm hb p2] [] [] p3)) ty fun ty=>cD2 (P:=fun nm=>Nk C lev Γ ΓN ns (.tryInt i j) sc (.Try [s1,s2] [.ExceptHandler (some ty) nm hb p2] [] [] p3)) nm <|
 at1 (P:=fun hb=>Nk C lev Γ ΓN ns (.tryInt i j) sc (.Try [s1,s2] [.ExceptHandler (some ty) none hb p2] [] [] p3)) hb fun s3 =>
 aD3 (P:=fun ty=>bY8 C lev Γ ΓN ns i j sc p2 p3 s1 s2 ty s3) ty fun ve q1=>aF8 (P:=fun s1=>bY8 C lev Γ ΓN ns i j sc p2 p3 s1 s2 (.Name ve q1) s3) s1 fun x1 p1 v1 p6=>aF8 (P:=fun s2=>bY8 C lev Γ ΓN ns i j sc p2 p3 (.Assign [.Name x1 p1] v1 p6) s2 (.Name ve q1) s3) s2 fun t1 p7 v2 p9 =>
 aF8 (P:=fun s3=>bY8 C lev Γ ΓN ns i j sc p2 p3 (.Assign [.Name x1 p1] v1 p6) (.Assign [.Name t1 p7] v2 p9) (.Name ve q1) s3) s3 fun t2 q2 v3 pl =>
 aH1 (P:=fun v1=>bY8 C lev Γ ΓN ns i j sc p2 p3 (.Assign [.Name x1 p1] v1 p6) (.Assign [.Name t1 p7] v2 p9) (.Name ve q1) (.Assign [.Name t2 q2] v3 pl)) v1 fun y1 q0 as p5 =>
 at2 (P:=fun as=>bY8 C lev Γ ΓN ns i j sc p2 p3 (.Assign [.Name x1 p1] (.Call (.Name y1 q0) as [] p5) p6) (.Assign [.Name t1 p7] v2 p9) (.Name ve q1) (.Assign [.Name t2 q2] v3 pl)) as fun a1 a2 =>
 aD3 (P:=fun a1=>bY8 C lev Γ ΓN ns i j sc p2 p3 (.Assign [.Name x1 p1] (.Call (.Name y1 q0) [a1,a2] [] p5) p6) (.Assign [.Name t1 p7] v2 p9) (.Name ve q1) (.Assign [.Name t2 q2] v3 pl)) a1 fun x2 q8 =>
 cK4 (P:=fun a2=>bY8 C lev Γ ΓN ns i j sc p2 p3 (.Assign [.Name x1 p1] (.Call (.Name y1 q0) [.Name x2 q8,a2] [] p5) p6) (.Assign [.Name t1 p7] v2 p9) (.Name ve q1) (.Assign [.Name t2 q2] v3 pl)) a2 fun i1 n1 p4 =>
 cK4 (P:=fun v2=>bY8 C lev Γ ΓN ns i j sc p2 p3 (.Assign [.Name x1 p1] (.Call (.Name y1 q0) [.Name x2 q8,.Constant (.int i1) n1 p4] [] p5) p6) (.Assign [.Name t1 p7] v2 p9) (.Name ve q1) (.Assign [.Name t2 q2] v3 pl)) v2 fun i2 n2 p8 =>
 aH6 (P:=fun v3=>bY8 C lev Γ ΓN ns i j sc p2 p3 (.Assign [.Name x1 p1] (.Call (.Name y1 q0) [.Name x2 q8,.Constant (.int i1) n1 p4] [] p5) p6) (.Assign [.Name t1 p7] (.Constant (.int i2) n2 p8) p9) (.Name ve q1) (.Assign [.Name t2 q2] v3 pl)) v3 fun o m q5 as q6 =>
 aD3 (P:=fun o=>bY8 C lev Γ ΓN ns i j sc p2 p3 (.Assign [.Name x1 p1] (.Call (.Name y1 q0) [.Name x2 q8,.Constant (.int i1) n1 p4] [] p5) p6) (.Assign [.Name t1 p7] (.Constant (.int i2) n2 p8) p9) (.Name ve q1) (.Assign [.Name t2 q2] (.Call (.Attribute o m q5) as [] q6) pl)) o fun vs q3 =>
 at2 (P:=fun as=>bY8 C lev Γ ΓN ns i j sc p2 p3 (.Assign [.Name x1 p1] (.Call (.Name y1 q0) [.Name x2 q8,.Constant (.int i1) n1 p4] [] p5) p6) (.Assign [.Name t1 p7] (.Constant (.int i2) n2 p8) p9) (.Name ve q1) (.Assign [.Name t2 q2] (.Call (.Attribute (.Name vs q3) m q5) as [] q6) pl)) as fun b1 b2 =>
 aD3 (P:=fun b1=>bY8 C lev Γ ΓN ns i j sc p2 p3 (.Assign [.Name x1 p1] (.Call (.Name y1 q0) [.Name x2 q8,.Constant (.int i1) n1 p4] [] p5) p6) (.Assign [.Name t1 p7] (.Constant (.int i2) n2 p8) p9) (.Name ve q1) (.Assign [.Name t2 q2] (.Call (.Attribute (.Name vs q3) m q5) [b1,b2] [] q6) pl)) b1 fun x3 q4 =>
 cK4 (P:=fun b2=>bY8 C lev Γ ΓN ns i j sc p2 p3 (.Assign [.Name x1 p1] (.Call (.Name y1 q0) [.Name x2 q8,.Constant (.int i1) n1 p4] [] p5) p6) (.Assign [.Name t1 p7] (.Constant (.int i2) n2 p8) p9) (.Name ve q1) (.Assign [.Name t2 q2] (.Call (.Attribute (.Name vs q3) m q5) [.Name x3 q4,b2] [] q6) pl)) b2 fun i3 n3 q7 =>
 chB (aB6 ns sc i x1) fun hx=>chB (aB6 ns sc j t1) fun hy=>chP (x1=x2) fun h1=>chP (x1=x3) fun h2=>chP (t1=t2) fun h3=>chB (aC4 sc y1 "int") fun g1=>chB (aC4 sc ve "ValueError") fun g2=>chB (aC4 sc vs "_ver_stages") fun g3=>chP ("get"=m) fun hm=>chB (q5.endLine == q6.line) fun hp =>
 chP (10=i1) fun h4=>chP (100=i2) fun h5=>chP (0=i3) fun h6=>yes (eK9 hx hy h1 h2 h3 g1 g2 g3 hm hp h4 h5 h6)
structure RcN where
 n:(i:NS)→(sc:Scope)→(st:Stmt)→Chk (Nk C lev Γ ΓN ns i sc st)
 nn:(is:NSs)→(sc:Scope)→(l:List Stmt)→Chk (Nks C lev Γ ΓN ns is sc l)
noncomputable def stN (R:RcN C lev Γ ΓN ns):(i:NS)→(sc:Scope)→(st:Stmt)→Chk (Nk C lev Γ ΓN ns i sc st)
 | .plain i,sc,st=>(mtS C lev Γ ns i sc st).bind fun h=>yes (dQ8 h)
 | .freeze _,_,_=>no
 | .turn i k es,sc,st=>aF8 st fun x p v q=>aH1 (P:=fun v=>Nk C lev Γ ΓN ns (.turn i k es) sc (.Assign [.Name x p] v q)) v fun y _ vs _=>bY4 ΓN[k]? fun f hf=>chB (aB6 ns sc i x) fun hx=>chB (aC4 sc y f.name) fun hg=>chP (vs.isEmpty=false) fun hne=>(eL3 C lev Γ ns es sc vs).bind fun h=>yes (eA8 hf hx hg hne h)
 | .barr i e,sc,st=>aF8 st fun x p v q=>aH1 (P:=fun v=>Nk C lev Γ ΓN ns (.barr i e) sc (.Assign [.Name x p] v q)) v fun y p1 as p2=>at1 (P:=fun as=>Nk C lev Γ ΓN ns (.barr i e) sc (.Assign [.Name x p] (.Call (.Name y p1) as [] p2) q)) as fun v =>
   chB (aB6 ns sc i x) fun hx=>chB (aC4 sc y "bytearray") fun hg=>chB (aA8 v) fun h0=>(mtE C lev Γ ns e sc v).bind fun h=>yes (eB1 hx hg h0 h)
 | .tryInt i j,sc,st=>eL2 C lev Γ ΓN ns i j sc st
 | .ite t a b,sc,st=>eF2 st fun v l1 l2 _=>(mtT C lev Γ ns t sc v).bind fun ht=>(R.nn a sc l1).bind fun ha=>(R.nn b sc l2).bind fun hb=>yes (eL0 ht ha hb)
 | .for1 i it body,sc,st=>bU5 st fun t v l l' q=>aJ2 (P:=fun l'=>Nk C lev Γ ΓN ns (.for1 i it body) sc (.For t v l l' q)) l' (aD3 (P:=fun t=>Nk C lev Γ ΓN ns (.for1 i it body) sc (.For t v l [] q)) t fun x _=>chB (aB6 ns sc i x) fun hx=>(bD7 v).bind fun h2=>(mtI C lev Γ ns it sc v).bind fun hi=>(R.nn body sc l).bind fun hb=>yes (eB0 hx h2 hi hb))
 | .for2 i j it body,sc,st=>bU5 st fun t v l l' q=>aJ2 (P:=fun l'=>Nk C lev Γ ΓN ns (.for2 i j it body) sc (.For t v l l' q)) l' (cD1 (P:=fun t=>Nk C lev Γ ΓN ns (.for2 i j it body) sc (.For t v l [] q)) t fun x _ y _ _ _=>chB (aB6 ns sc i x) fun hx=>chB (aB6 ns sc j y) fun hy=>chP (x≠y) fun hne=>(bD7 v).bind fun h2 =>
   (mtI C lev Γ ns it sc v).bind fun hi=>(R.nn body sc l).bind fun hb=>yes (eA9 hx hy hne h2 hi hb))
noncomputable def eQ9 (R:RcN C lev Γ ΓN ns):(is:NSs)→(sc:Scope)→(l:List Stmt)→Chk (Nks C lev Γ ΓN ns is sc l)
 | .nil,_,l=>aJ2 l (yes eA4)
 | .cons i is,sc,l=>eF4 (P:=fun i l=>Nks C lev Γ ΓN ns (.cons i is) sc l) i l (fun _=>(R.nn is sc l).bind fun h=>yes (cQ5 h)) fun x xs=>(R.n i sc x).bind fun h=>(R.nn is sc xs).bind fun hs=>yes (dQ5 h hs)
noncomputable def eO9 (n:Nat):RcN C lev Γ ΓN ns:=Nat.rec ⟨fun _ _ _=>no,fun _ _ _=>no⟩ (fun _ R=>⟨stN C lev Γ ΓN ns R,eQ9 C lev Γ ΓN ns R⟩) n
noncomputable abbrev mtN:=(eO9 C lev Γ ΓN ns 64).n
noncomputable abbrev eV3:=(eO9 C lev Γ ΓN ns 64).nn
theorem bN6 {C:Cfg} {lev:Nat} {Γ ΓN:List Fn} {ns params:List Str} {fa:Addr} {is:NSs} (fns:FnsOk C lev Γ) (FN:FnsN C lev ΓN) (kit:Kit C) (hp:aY7 C.K fa params)
  (h:(eC7 C fa ns params (P:=fun sc b=>(params.all (fun x=>decide (sc.names.lookup x=some .local))&&!params.isEmpty)=true∧Nks C lev Γ ΓN ns is sc b) fun sc b=>chB _ fun h1=>(eV3 C lev Γ ΓN ns is sc b).bind fun h2=>yes ⟨h1,h2⟩).ok=true):CallOkN C (lev+1) fa (bY0 params.length Γ ΓN is) :=
 dT6 fns FN kit hp (Chk.of _ h)
end Mine
end
section
open PySem PySem.W PyProof.Rows PySem.Calls PySem.Spec
open Sem (wp)
set_option autoImplicit false
set_option maxRecDepth 100000
namespace Mine
namespace Fl
theorem mro:mroOf (.type "filter")=pure [.type "filter",.type "object"]:=by rw [mroOf_type];kernel_rfl
theorem aZ5:typeLookup (.type "filter") "__new__"=pure (some (.builtin "filter.__new__")):=by rw [typeLookup_type,builtinLookup_eq_fast];kernel_rfl
theorem bD6:Slot "filter" "__init__" "object.__init__" :=
 .of (owner:="object") (n:="__init__") (by rw [typeLookup_type,builtinLookup_eq_fast];kernel_rfl) (by decide +kernel) (by decide +kernel) (by decide +kernel)
  (by first | exact .inl (by decide +kernel) | exact .inr (by decide +kernel)) (by rw [isSubtype_type];kernel_rfl)
theorem slot_next:Slot "filter" "__next__" "filter.__next__" :=
 .of (owner:="filter") (n:="__next__") (by rw [typeLookup_type,builtinLookup_eq_fast];kernel_rfl) (by decide +kernel) (by decide +kernel) (by decide +kernel)
  (by first | exact .inl (by decide +kernel) | exact .inr (by decide +kernel)) (by rw [isSubtype_type];kernel_rfl)
theorem bQ4:Slot "filter" "__iter__" "filter.__iter__" :=
 .of (owner:="filter") (n:="__iter__") (by rw [typeLookup_type,builtinLookup_eq_fast];kernel_rfl) (by decide +kernel) (by decide +kernel) (by decide +kernel)
  (by first | exact .inl (by decide +kernel) | exact .inr (by decide +kernel)) (by rw [isSubtype_type];kernel_rfl)
theorem called:TypeCalled "filter" "filter.__new__" "object.__init__" :=
 ⟨by decide +kernel,by decide +kernel,⟨_,_,mro⟩,madeBy_type mro aZ5 (by decide +kernel),by decide +kernel,by rw [isSubtype_type];kernel_rfl,bD6⟩
theorem aY9 (a b:Value):checkTypeCall "filter" ⟨[a,b],[]⟩=pure ():=by kernel_rfl
theorem bE7 (a b:Value):checkBuiltinCall "filter.__new__" ⟨[.type "filter",a,b],[]⟩=pure ():=by kernel_rfl
theorem bG2:entryFor table "filter.__new__"=some Builtin.«filter.__new__»:=entryFor_of_tree (by kernel_rfl)
theorem bK6:entryFor table "filter.__next__"=some Builtin.«filter.__next__»:=entryFor_of_tree (by kernel_rfl)
theorem cI7:entryFor table "filter.__iter__"=some Builtin.«dict_keyiterator.__iter__» :=
 entryFor_alias (id':="dict_keyiterator.__iter__") (by kernel_rfl) (by first | rfl | decide +kernel | (unfold String.splitOn;simp +decide [String.splitOnAux])) (by decide +kernel) (by kernel_rfl)
theorem bU7 (a:Value):argsOk "filter.__next__" ⟨[a],[]⟩:=by unfold argsOk;kernel_rfl
theorem cW7 (a:Value):argsOk "filter.__iter__" ⟨[a],[]⟩:=by unfold argsOk;kernel_rfl
theorem sub:isSubtype (.type "filter") (.type "filter")=pure true:=by rw [isSubtype_type];kernel_rfl
noncomputable abbrev cK8 (h:Heap) (z J:Addr):Prop:=h.get? z=some { cls:=.type "filter",dict:=none,data:=.fields #[.builtin "len",.ref J],slots:=#[] }
theorem cR3 (l:Addr) (xs:Array Value) :
  Meets (Builtin.«filter.__new__» ⟨[.type "filter",.builtin "len",.ref l],[]⟩) (fun _ R s=>s.heap.IsTuple l xs ∧
   R (.ok (.ret (.ref (s.heap.push { cls:=.type "tuple_iterator",data:=.fields #[.ref l,.int 0 0] }).objs.size))) { s with heap:=(s.heap.push { cls:=.type "tuple_iterator",data:=.fields #[.ref l,.int 0 0] }).push { cls:=.type "filter",data:=.fields #[.builtin "len",.ref s.heap.objs.size] } }) :=
 .of_wp fun prog w A R s h=>by
  obtain ⟨hp,g,d,tk,os⟩:=s;obtain ⟨hl1,h⟩:=h
  have hsub:=sub
  have hL1:Heap.IsTuple (Shared.heap ⟨hp,g,d,tk,os⟩) l xs:=hl1
  have e:(hp.push { cls:=.type "tuple_iterator",data:=.fields #[.ref l,.int 0 0] }).objs.size=hp.objs.size+1:=Heap.size_push ..
  wp_walk using wpAny_pyIter_tuple hL1
  exact ⟨_,rfl,h⟩
section
variable {prog:Program} {w:World} {A:Around} {E:Value→Shared→Prop} {s:Shared}
theorem call_2 {l:Addr} {xs:Array Value} {Q:Value→Shared→Prop} (hl:s.heap.IsTuple l xs)
  (h:∀ h',cK8 h' (s.heap.objs.size+1) s.heap.objs.size→h'.IsTupleIter s.heap.objs.size l 0→h'.objs.size=s.heap.objs.size+2→(∀ c o,s.heap.get? c=some o→h'.get? c=some o)→Q (.ref (s.heap.objs.size+1)) { s with heap:=h' }) :
  wpAny (model prog w) A (call (.type "filter") [.builtin "len",.ref l]) Q E s:=by
 have z1:(s.heap.push { cls:=.type "tuple_iterator",data:=.fields #[.ref l,.int 0 0] }).objs.size=s.heap.objs.size+1:=Heap.size_push ..
 have hF:=Heap.get?_push_size (s.heap.push { cls:=.type "tuple_iterator",data:=.fields #[.ref l,.int 0 0] }) (o:={ cls:=.type "filter",data:=.fields #[.builtin "len",.ref s.heap.objs.size] }) rfl
 refine callType_new called (by decide) (aY9 _ _) (bE7 _ _) (fun obj=>F.args_object_init_3 obj _ _) bG2 (cR3 l xs) ⟨hl,⟨_,hF,rfl⟩,?_⟩
 rw [z1] at hF ⊢
 refine h _ hF ⟨_,Heap.get?_push_of_some _ (Heap.get?_push_size _ rfl),rfl,rfl⟩ (by rw [Heap.size_push,z1]) fun c o e=>Heap.get?_push_of_some _ (Heap.get?_push_of_some _ e)
theorem iter_self {z J:Addr} {Q:Value→Shared→Prop} (hz:cK8 s.heap z J) (h:Q (.ref z) s):wpAny (model prog w) A (pyIter (.ref z)) Q E s:=by
 have hT:s.TypeIs (.ref z) "filter":=⟨_,hz,rfl⟩
 refine wpAny_pyIter_slot hT bQ4 (wpAny_call_entry bQ4 hT cI7 ?_ (cW7 _))
 show wpAny _ _ (ret (.ref z)) _ _ s
 exact wpAny_pure ⟨_,rfl,"filter",_,hT,slot_next.lookup,h⟩
noncomputable def Long (items:Array Value):Prop:=∀ (i:Nat) (v:Value),items[i]?=some v→∃ x t,v=.str x t∧0 < x.length∧x.length < 2 ^ 40
theorem cQ8 {z J l:Addr} {i:Nat} {items:Array Value} {v:Value} {Q:Option Value→Shared→Prop} (hz:cK8 s.heap z J) (hJ:s.heap.IsTupleIter J l i) (hl:s.heap.IsTuple l items) (hL:Long items) (hv:items[i]?=some v) (hne:z≠J) (hlJ:l≠J)
  (hQ:∀ h' tk,cK8 h' z J→h'.IsTupleIter J l (i+1)→h'.IsTuple l items→Heap.SameBut J s.heap h'→Q (some v) { s with heap:=h',toks:=tk }) :
  wpAny (model prog w) A (pyNext (.ref z)) Q E s:=by
 have hT:s.TypeIs (.ref z) "filter":=⟨_,hz,rfl⟩
 refine hid fun Gz zz=>?_
 obtain ⟨x,t,rfl,h0,h1⟩:=hL i v hv
 obtain ⟨o,ho,hc,hd⟩:=id hJ
 obtain ⟨ol,hol,_,nl,hdl⟩:=id hl
 refine zz ?_;clear zz Gz
 unfold pyNext
 refine wpAny_bind (wpAny_attempt (wpAny_callSpecial?_slot (name:=Str.ofString "__next__") hT slot_next (wpAny_call_entry slot_next hT bK6 ?_ (bU7 _))))
 unfold Builtin.«filter.__next__»
 refine wpAny_bind (wpAny_of_eq (a:=(Value.ref z,[])) rfl ?_)
 refine wpAny_bind (wpAny_field hz rfl (x:=.builtin "len") rfl ?_)
 refine wpAny_bind (wpAny_field hz rfl (x:=.ref J) rfl ?_)
 refine wpAny_bind (wpAny_callSpecial?_slot (name:=Str.ofString "__next__") hJ.typeIs F.slot_tuple_iterator_next
  (wpAny_call_entry F.slot_tuple_iterator_next hJ.typeIs F.entry_tuple_iterator_next ?_ (F.args_tuple_iterator_next_1 _)))
 show wpAny _ _ (field (.ref J) 0 >>= _) _ _ s
 refine wpAny_bind (wpAny_field ho hd (x:=.ref l) rfl ?_)
 show wpAny _ _ (if (Value.ref l == Value.none)=true then _ else _) _ _ s
 rw [if_neg (show ¬ ((Value.ref l == Value.none)=true) from Bool.false_ne_true)]
 show wpAny _ _ (field (.ref J) 1 >>= _) _ _ s
 refine wpAny_bind (wpAny_field ho hd (x:=.int i 0) rfl ?_)
 show wpAny _ _ (seqItems? (.ref l) >>= _) _ _ s
 refine wpAny_bind (wpAny_seqItems hol hdl ?_)
 simp only [Int.toNat_natCast,hv]
 refine wpAny_bind (wpAny_setField ho hd (by simp) (wpAny_pure ⟨_,rfl,?_⟩))
 refine wpAny_bind (wpAny_holding ?_)
 show wpAny _ _ (call (.builtin "len") [.str x t] >>= _) _ _ _
 refine wpAny_bind (P.len_str (dE3 (cX4 h1 rfl)) ?_)
 refine wpAny_holding (P.truthy_int ?_)
 rw [show ((x.length:Int) != 0)=true by rw [bne_iff_ne];lia,if_pos rfl]
 refine wpAny_pure ⟨_,rfl,wpAny_pure ?_⟩
 have hJ':(s.heap.update J (Obj.mapFields fun x=>x.setIfInBounds 1 (rawInt ((i:Int)+1)))).IsTupleIter J l (i+1) :=
  ⟨_,Heap.get?_update_self _ ho (Obj.isFreed_of_fields (Obj.data_mapFields hd _)),(Obj.cls_mapFields ..).trans hc,by
   rw [Obj.data_mapFields hd];simp [rawInt]⟩
 refine hQ _ _ ?_ hJ' (hl.extBut (Heap.SameBut.update ..).extBut hlJ) (Heap.SameBut.update ..)
 exact (Heap.get?_update_other _ _ (Ne.symm hne)).trans hz
theorem dC4 {z J l:Addr} {i:Nat} {items:Array Value} {Q:Option Value→Shared→Prop} (hh:A.handled=none) (hz:cK8 s.heap z J) (hJ:s.heap.IsTupleIter J l i) (hl:s.heap.IsTuple l items) (hv:items[i]?=none)
  (hQ:∀ h',Heap.ExtBut J s.heap h'→Q none { s with heap:=h' }) :
  wpAny (model prog w) A (pyNext (.ref z)) Q E s:=by
 have hT:s.TypeIs (.ref z) "filter":=⟨_,hz,rfl⟩
 refine hid fun Gz zz=>?_
 obtain ⟨o,ho,hc,hd⟩:=id hJ
 obtain ⟨ol,hol,_,nl,hdl⟩:=id hl
 refine zz ?_;clear zz Gz
 unfold pyNext
 refine wpAny_bind (wpAny_attempt (wpAny_callSpecial?_slot (name:=Str.ofString "__next__") hT slot_next (wpAny_call_entry slot_next hT bK6 ?_ (bU7 _))))
 unfold Builtin.«filter.__next__»
 refine wpAny_bind (wpAny_of_eq (a:=(Value.ref z,[])) rfl ?_)
 refine wpAny_bind (wpAny_field hz rfl (x:=.builtin "len") rfl ?_)
 refine wpAny_bind (wpAny_field hz rfl (x:=.ref J) rfl ?_)
 refine wpAny_bind (wpAny_callSpecial?_slot (name:=Str.ofString "__next__") hJ.typeIs F.slot_tuple_iterator_next
  (wpAny_call_entry F.slot_tuple_iterator_next hJ.typeIs F.entry_tuple_iterator_next ?_ (F.args_tuple_iterator_next_1 _)))
 show wpAny _ _ (field (.ref J) 0 >>= _) _ _ s
 refine wpAny_bind (wpAny_field ho hd (x:=.ref l) rfl ?_)
 show wpAny _ _ (if (Value.ref l == Value.none)=true then _ else _) _ _ s
 rw [if_neg (show ¬ ((Value.ref l == Value.none)=true) from Bool.false_ne_true)]
 show wpAny _ _ (field (.ref J) 1 >>= _) _ _ s
 refine wpAny_bind (wpAny_field ho hd (x:=.int i 0) rfl ?_)
 show wpAny _ _ (seqItems? (.ref l) >>= _) _ _ s
 refine wpAny_bind (wpAny_seqItems hol hdl ?_)
 simp only [Int.toNat_natCast,hv]
 refine wpAny_bind (wpAny_rule (wpAny_bind (wpAny_setField ho hd (by simp) ?_)))
 show wpAny _ _ (newExc (.type "StopIteration") [] >>= _) _ _ _
 refine wpAny_bind ?_
 simp only [newExc,newTuple]
 refine wpAny_bind (wpAny_newObj_type ?_ (by size_fits))
 refine wpAny_bind (m:=firstArgMember _ _) (wpAny_of_eq (a:=Value.none) (by first | rfl | (simp only [firstArgMember];rfl)) ?_)
 refine wpAny_newObj_type ?_ (by size_fits)
 refine wpAny_bind (wpAny_handled ?_)
 rw [show A.in1.in1.handled=none from hh]
 refine wpAny_bind (wpAny_pure (wpAny_throw ?_))
 refine wpAny_bind (wpAny_isInstance (T:="StopIteration") (b:=true) ⟨_,Heap.get?_push_size _ rfl,rfl⟩ isSubtype_stop ?_)
 exact wpAny_pure (hQ _ (((Heap.SameBut.update ..).extBut.push _).push _))
theorem walks (hh:A.handled=none) (z J l:Addr) (hne:z≠J) (hlJ:l≠J) (items:Array Value) (hL:Long items) :
  Walks prog w A z [z,J,l] [J] items.size (fun i v=>items[i]?=some v) (fun i h=>cK8 h z J∧h.IsTupleIter J l i∧h.IsTuple l items) where
 sub:=fun b hb=>by simp at hb;simp [hb]
 frame:=fun _ _ _ st hk=>⟨hk z (by simp) _ st.1,st.2.1.at fun o e=>hk J (by simp) o e,st.2.2.at fun o e=>hk l (by simp) o e⟩
 item:=fun i s Q E hi st hQ=>by
  refine cQ8 st.1 st.2.1 st.2.2 hL (v:=items[i]) (by simp [hi]) hne hlJ fun h' tk a b c hs'=>?_
  exact hQ _ h' tk (by simp [hi]) ⟨a,b,c⟩ fun b o hb e=>hs'.extBut b o (fun h=>hb (by simp [h])) e
 done:=fun s Q E st hQ=>dC4 hh st.1 st.2.1 st.2.2 (by simp) fun h' he'=>hQ h' s.toks fun b o hb e=>he' b o (fun h=>hb (by simp [h])) e
 self:=fun _ _ _ _ st hQ=>iter_self st.1 hQ
end
end Fl
end Mine
end
section
open PySem PySem.W PyProof.Rows PySem.Calls PySem.Spec
open Sem (wp)
set_option autoImplicit false
set_option maxRecDepth 100000
namespace Mine
structure PlatCode (C:Cfg) (cc:Addr):Prop where
 tab:∀ h,C.tab h↔∃ ps,h.IsCode cc C.PT ps∧h.TableAt cc C.PT ps
section
variable {C:Cfg} {lev:Nat} {Γ:List Fn} {ns fs:List Str} {A:Around} {env:Env} {ah:Shared} {ac:Addr→Bool} {ρ:Ro} {W Mu:Addr→Bool} {ad:Nat→Addr} {s s':Shared}
theorem cN4 {prog:Program} {w:World} {cenv:Env} {m:Str→Option Value} {x:Str} {t:Tok} {p1 sap sp:Pos} {E:Value→Shared→Prop} (hk:cenv.scope.kind=.function) (hl:cenv.scope.names.lookup ("x":Str)=some .local) (hsp:(sap.endLine == sp.line)=true)
  (hn:s.heap.Ns cenv.locals m) (hv:m "x"=some (.str x t)) (hx:x.length≤sizeLine) :
  wpAny (model prog w) A (eval (.Call (.Attribute (.Name "x" p1) "strip" sap) [] [] sp) cenv) (fun y ar=>(∃ u,y=.str (Txt.strip x) u)∧Keeps s ar) E s:=by
 refine wpAny_Call_method0_late rfl hsp (wpAny_Name (wpAny_loadName_local hk hl hn hv ?_) (by decide))
 refine ⟨"str","str.strip",PySem.F.plainAttrs_str,F.slot_str_strip,F.type_str_strip,typeIs_str _ _ _,(fun _=>Value.noConfusion),?_⟩
 exact callWith_method0 (env:=cenv) (KXw.strip rfl hx fun t' k=>⟨⟨_,rfl⟩,_,_,rfl,fun _ _ e=>e⟩)
theorem dT1 {j:Nat} {d:D} (h:ρ.lookup j=some (.dat d)) {tr:Bool}:ev Γ (.var j) tr ρ=some d:=by
 show (match ρ.lookup j with | some (.dat d)=>some d | some (.own d)=>if tr=true then some d else none | none=>none)=some d
 rw [h]
theorem aW8:∀ xs:List Str,bH5 (xs.map .str)=some xs
 | []=>rfl
 | x::xs=>by
  show (bH5 (xs.map .str)).map _=_
  rw [aW8 xs];rfl
theorem bT8 {sc:Scope} (h:sc.names=[((".0":Str),NameKind.local),(("x":Str),NameKind.local)]):closureFor sc env=pure []:=by
 dsimp only [closureFor]
 rw [h]
 rfl
theorem ex8 {A B C D E F G H:Type} {P:A→B→C→D→E→F→G→H→Prop} (a:A) (b:B) (c:C) (d:D) (e:E) (f:F) (g:G) (h:H) (p:P a b c d e f g h):∃ a b c d e f g h,P a b c d e f g h:=⟨a,b,c,d,e,f,g,h,p⟩
theorem dB0 {cc:Addr} {gsc:Scope} {xs:List Str} {j:Nat} {n0:Nat} {p0 ap p p1 sap sp px pf pl pa cp gpos:Pos} {f l a:Str} (K:PlatCode C cc) (F:Frm C lev Γ ns A env ah ac ρ W Mu ad s) (hcode:env.code=.ref cc)
  (hl:ρ.lookup j=some (.dat (.tup (xs.map .str)))) (hp:(ap.endLine == p.line)=true) (hsp:(sap.endLine == sp.line)=true) (hf:aC4 env.scope f "filter"=true) (hln:aC4 env.scope l "len"=true) (ha:aB6 ns env.scope j a=true)
  (hgk:gsc.kind=.function) (hgn:gsc.names=[((".0":Str),NameKind.local),(("x":Str),NameKind.local)]) (hgc:gsc.isCoroutine=false)
  (hx:∀ x∈xs,0 < x.length∧x.length≤lim) (hj:JoinOk "-" (xs.map Txt.strip)=true) (hn:xs.length≤1000) :
  PE C A Mu (eval (.Call (.Attribute (.Constant (.str "-") n0 p0) "join" ap) [.GeneratorExp (.Call (.Attribute (.Name "x" p1) "strip" sap) [] [] sp) [⟨.Name "x" px,.Call (.Name f pf) [.Name l pl,.Name a pa] [] cp,[],0⟩] gsc gpos] [] p) env) s (.str (Txt.join "-" (xs.map Txt.strip))):=by
 obtain ⟨rfl,kf,df⟩:=aN2 hf
 obtain ⟨rfl,kl,dl⟩:=aN2 hln
 intro Q E k
 have hlim:lim≤sizeLine:=by decide
 have gx:gsc.names.lookup ("x":Str)=some .local:=by rw [hgn];decide
 have g0:gsc.names.lookup (".0":Str)=some .local:=by rw [hgn];decide
 have hroom:A.depth < recursionLimit:=by have:=F.room.depth;exact bH6 this
 refine wpAny_Call_method1_late rfl hp (by rw [aA5 rfl];rfl) (Constant_str ?_)
 refine ⟨"str","str.join",PySem.F.plainAttrs_str,PySem.F.slot_str_join,PySem.F.type_str_join,typeIs_str _ _ _,(fun _=>Value.noConfusion),?_⟩
 refine callWith_builtin rfl (evalArgs_plain (spliced_cons ?_))
 have aj:Go C s { s with toks:=s.toks+1 }:=.tok
 have aD:=F.go aj (Nat.le_succ _)
 refine wpAny_GeneratorExp_walksQD F.room.handled hgc (bT8 hgn) (fun y hy=>by rw [hgn] at hy;simp at hy;rcases hy with rfl | rfl<;>simp) g0 gx hgk hroom ?_ (fun _=>rfl)
 refine eX7 fun Q' kQ=>?_
 refine wpAny_Call_NameR (aL4 aD.cx kf df (by decide) boot_filter (by decide) ?_)
 rw [aA5 rfl,aA5 rfl,aD9]
 refine PySem.callWith_type rfl (evalArgs_plain (spliced_cons (aL4 aD.cx kl dl (by decide) (by rfl) (by decide) (spliced_cons ?_))))
 refine (Vk.f (dL3 ha) aD.cx rfl (dT1 hl)).toks _ _ fun v ai al aF r=>spliced_nil ?_
 have bf:=aD.go al aF
 refine hid fun Gz zz=>?_
 obtain ⟨at',vs,nn,rfl,e,rl⟩:=r.inv
 have e':ai.heap.get? at'=some (aU9 vs nn):=VLe.heap _ _ e Value.noConfusion
 obtain ⟨lt,rfl,hlt⟩:=bD4 rl (xs:=xs) (aW8 xs)
 refine zz ?_;clear zz Gz
 have hlen:lt.length=xs.length:=by rw [← hlt,List.length_map]
 have hsz:(strValues lt).toArray.size=xs.length:=by simp [strValues,hlen]
 have hat:∀ (i:Nat) (v:Value),(strValues lt).toArray[i]?=some v→∃ x t,v=.str x t∧xs[i]?=some x:=fun i v hv=>by
  have hv':(strValues lt)[i]?=some v:=by simpa using hv
  dsimp only [strValues] at hv'
  rw [List.getElem?_map] at hv'
  obtain ⟨q,hq,rfl⟩:=Option.map_eq_some_iff.mp hv'
  exact ⟨q.1,q.2,rfl,by rw [← hlt,List.getElem?_map,hq];rfl⟩
 have hL:Fl.Long (strValues lt).toArray:=fun i v hv=>by
  obtain ⟨x,t,rfl,hx'⟩:=hat i v hv
  have:=hx x (List.mem_of_getElem? hx')
  exact ⟨x,t,rfl,this.1,aL3 this.2 (by decide)⟩
 refine Fl.call_2 (bM8 e') fun a7 hz hJ ct dz=>?_
 have aE:Go C ai { ai with heap:=a7 }:=.keep dz
 have aR:=bf.go aE (Nat.le_refl _)
 have fg:Go C s { ai with heap:=a7 }:=(aj.trans al).trans aE
 have hJs:∀ b o,s.heap.get? b=some o→(o.cls≠.none∨b≠C.PT)→b≠ai.heap.objs.size:=fun b o q c z=>by
  have:=(aj.trans al).ext b o q c
  rw [z] at this
  exact Nat.lt_irrefl _ (Heap.lt_size this)
 obtain ⟨ps,hic,hta⟩:=(K.tab _).mp aR.ok.tab
 have tT:a7.get? at'=some (aU9 (strValues lt) nn):=dz _ _ e'
 refine kQ _ _ (Fl.iter_self hz ?_)
 refine ⟨aR.ok.top.nolimit,?_⟩
 have step:∀ (code:Value) (bg:Heap) (tk:Nat),(∀ b o,b≠C.PT→a7.get? b=some o→bg.get? b=some o)→C.tab bg→ai.toks≤tk →
   wpAny (model C.prog C.w) A (builtinsFor env.globals env.builtins) (fun bi aU =>
    ∃ I fp wr cX P dA pz F,(Value.ref (ai.heap.objs.size+1))=.ref I∧(∀ A':Around,A'.handled=none→Walks C.prog C.w A' I fp wr cX P dA)∧dA 0 aU.heap∧(∀ b∈fp,b < aU.heap.objs.size)∧aU.heap.NoLimit∧cStatics∉wr ∧
     (∀ href:Heap,(∀ b o,aU.heap.get? b=some o→href.get? b=some o) →
      QuietGenD C.prog C.w (genEnv gsc [] aU.heap.objs.size code bi env) "x" [] (.Call (.Attribute (.Name "x" p1) "strip" sap) [] [] sp) (List.range aU.heap.objs.size) wr P pz F href (A.depth+1) (A.units+8)) ∧
     (∀ a bA tk gs,gs.bare=true→aU.heap.objs.size < a→bA.objs.size=a+1→(∀ b o,aU.heap.get? b=some o→bA.get? b=some o) →
      WalksS C.prog C.w A.in4 a (a::aU.heap.objs.size::List.range aU.heap.objs.size) (aU.heap.objs.size::wr) (GenOnlyQ aU.gens.size) (passing pz cX 0).length
       (fun j y=>∃ i,(passing pz cX 0)[j]?=some i∧F i y) (GenAt C.prog C.w A.in4 a aU.gens.size aU.heap.objs.size (List.range aU.heap.objs.size) wr pz cX F) →
      GenAt C.prog C.w A.in4 a aU.gens.size aU.heap.objs.size (List.range aU.heap.objs.size) wr pz cX F 0 { aU with gens:=aU.gens.push gs,toks:=tk,heap:=bA } →
      wpAny (model C.prog C.w) A (spliced []) (fun vs s'=>wpAny (model C.prog C.w) A (call (.builtin "str.join") ([.str ("-":Str) s.toks]++(Value.ref a::vs)) []) Q E s') E { aU with gens:=aU.gens.push gs,toks:=tk,heap:=bA })) E { ai with heap:=bg,toks:=tk }:=by
  intro code bg tk dB htab htk
  have bK:Go C { ai with heap:=a7 } { ai with heap:=bg,toks:=tk }:=by
   refine ⟨fun b o q c=>dB b o (fun z=>?_) q,fun _=>htab,rfl,id⟩
   obtain ⟨oP,eP,cP⟩:=C.tabNone _ aR.ok.tab
   rcases c with c | c
   ·rw [z] at q
    rw [q] at eP;obtain rfl:=Option.some.inj eP
    exact c cP
   ·exact c z
  have bo:=aR.go bK htk
  refine hid fun Gz zz=>?_
  obtain ⟨bm,ob,b1,b2,b3,b4,b5,b6⟩:=bo.ok.top.bm
  refine zz ?_;clear zz Gz
  refine wpAny_builtinsFor (bo.envOk.glob ▸ bo.ok.top.g) b1 b2 b3 b4 b5 b6 ?_
  have hPz:∀ {b o},a7.get? b=some o→o.cls≠.none→bg.get? b=some o:=fun {b o} q c=>dB b o (fun z=>by
   obtain ⟨oP,eP,cP⟩:=C.tabNone _ aR.ok.tab
   rw [z] at q
   have eP':a7.get? C.PT=some oP:=eP
   rw [q] at eP';obtain rfl:=Option.some.inj eP'
   exact c cP) q
  refine hid fun Gz zz=>?_
  obtain ⟨oJ,eJ,cJ,dJ⟩:=id hJ
  refine zz ?_;clear zz Gz
  have z4:=hPz hz Value.noConfusion
  have J4:=hPz eJ (by rw [cJ];simp)
  have T4:=hPz tT Value.noConfusion
  have neZJ:ai.heap.objs.size+1≠ai.heap.objs.size:=dA6 (dJ5 cL0)
  have neTJ:at'≠ai.heap.objs.size:=Nat.ne_of_lt (Heap.lt_size e')
  refine ex8 (ai.heap.objs.size+1) [ai.heap.objs.size+1,ai.heap.objs.size,at'] [ai.heap.objs.size] (strValues lt).toArray.size _ _ (fun _=>true) (fun i y=>∃ x u,xs[i]?=some x∧y=.str (Txt.strip x) u) ⟨rfl,fun A' hA=>Fl.walks hA _ _ _ neZJ neTJ _ hL,
   ⟨z4,⟨oJ,J4,cJ,dJ⟩,bM8 T4⟩,fun b hb=>?_,bo.ok.top.nolimit,fun hm=>?_,fun href hk=>⟨fun A' E' i v t fh hA hD hU hP hn' hm hkp=>?_,fun A' E' i v t fh hA hD hU hP hp' hn' hm hkp=>?_⟩,fun a bA tk' gs hgb hag dP eN W' hat'=>spliced_nil ?_⟩
  ·show b < bg.objs.size
   simp only [List.mem_cons,List.not_mem_nil,or_false] at hb
   rcases hb with rfl | rfl | rfl
   ·exact Heap.lt_size z4
   ·exact Heap.lt_size J4
   ·exact Heap.lt_size T4
  ·obtain ⟨mc,⟨o,es,ep,ho,hd,_⟩,_⟩:=bo.ok.top.nolimit
   rw [List.mem_singleton.mp hm] at ho
   have J4':bg.get? ai.heap.objs.size=some oJ:=J4
   rw [J4'] at ho;obtain rfl:=Option.some.inj ho
   rw [dJ] at hd;cases hd
  ·rw [List.forIn_nil]
   exact wpAny_pure ⟨rfl,t.heap,t.toks,rfl,fun _ _ q=>q⟩
  ·obtain ⟨x,u,rfl,hx'⟩:=hat i v hP
   have hxl:=hx x (List.mem_of_getElem? hx')
   refine wpAny_mono (cN4 (x:=x) (t:=u) hgk gx hsp hn' hm (aA9 hxl.2 hlim)) (fun y ar h=>?_) fun _ _ q=>q
   obtain ⟨⟨u',rfl⟩,kk⟩:=h
   exact ⟨⟨x,u',hx',rfl⟩,kk⟩
  ·have hpass:passing (fun _=>true) (strValues lt).toArray.size 0=List.range (strValues lt).toArray.size:=by simp [passing]
   rw [hpass,List.length_range] at W'
   refine SC.joinGen W'.in4_2 (fun i s' st=>st.1.typeIs) hat' (fun b hb=>?_) List.mem_cons_self (fun j v hv=>?_) (fun s' l' hm hacc=>?_) (by rw [hsz];exact aA9 hn (by decide))
   ·show b < bA.objs.size
    rw [dP]
    rcases List.mem_cons.mp hb with rfl | hb
    ·exact Nat.lt_succ_self _
    ·rcases List.mem_cons.mp hb with rfl | hb
     ·exact Nat.lt_succ_of_lt hag
     ·exact Nat.lt_succ_of_lt (Nat.lt_trans (List.mem_range.mp hb) hag)
   ·obtain ⟨i,_,x,u,_,rfl⟩:=hv
    exact ⟨_,_,rfl⟩
   ·have hl':l'.map (·.1)=xs.map Txt.strip:=by
     have hlen':l'.length=xs.length:=by have:=hacc.1;rw [hsz] at this;simpa [strValues] using this
     apply List.ext_getElem?
     intro j
     by_cases hj':j < l'.length
     ·obtain ⟨i,hi,x,u,hx',hv⟩:=hacc.2 j (.str l'[j].1 l'[j].2) (by simp [strValues,List.getElem?_eq_getElem hj'])
      have hij:i=j:=by
       rw [List.getElem?_range (by rw [hsz];exact eJ8 hlen' hj')] at hi
       exact (Option.some.inj hi).symm
      subst hij
      injection hv with h1 _
      rw [List.getElem?_map,List.getElem?_map,List.getElem?_eq_getElem hj',hx']
      simp [h1]
     ·rw [List.getElem?_eq_none (by simpa using Nat.le_of_not_lt hj'),List.getElem?_eq_none (by simp;exact aA9 (dA7 hlen') (dZ1 hj'))]
    rw [hl']
    refine ⟨hj,fun t' kt=>k _ _ ?_ (.str _ _)⟩
    have dQ:Go C s { ai with heap:=bg,toks:=tk }:=fg.trans bK
    have up:∀ b o,bg.get? b=some o→b≠ai.heap.objs.size→s'.heap.get? b=some o:=fun b o q hb=>by
     refine hm.heap b o (fun z=>?_) (eN b o q)
     rcases List.mem_cons.mp z with z | z
     ·exact Nat.lt_irrefl _ (z ▸ Heap.lt_size q:bg.objs.size < bg.objs.size)
     ·exact hb (List.mem_singleton.mp z)
    refine ⟨fun b o q c=>up b o (dQ.ext b o q c) (hJs b o q c),fun _=>C.tabMono bg _ (fun b o q c=>up b o q fun z=>?_) htab,hm.os.trans dQ.os,fun B=>AllBare.moved ((dQ.gens B).push hgb) hm.gens⟩
    rw [z] at q
    rw [J4] at q;obtain rfl:=Option.some.inj q
    rw [cJ] at c
    rcases c with c | c
    ·have:("tuple_iterator":String)="code":=by injection c
     exact absurd this (by decide)
    ·cases c
 cases hnf:codeAmong gpos ps.toList with
 | some cv =>
  refine wpAny_genexprCode_hit hcode hic hnf ?_
  exact step cv a7 ai.toks (fun _ _ _ q=>q) aR.ok.tab (Nat.le_refl _)
 | none =>
  refine wpAny_with_toks (n:=ai.toks) (Nat.le_refl _) (wpAny_genexprCodeX hcode hic hta hnf fun c' bg tk eO _ _ dR _ dS _ htk=>?_)
  exact step (.ref c') bg tk (fun b o hb q=>eO b o hb q) ((K.tab _).mpr ⟨_,dR,dS⟩) htk
end
end Mine
end
section
open PySem PySem.W PyProof.Rows PySem.Calls PySem.Spec
open Sem (wp)
set_option autoImplicit false
set_option maxRecDepth 100000
namespace Mine
noncomputable def eN2 {P:Comprehension→Prop} (g:Comprehension) (k:∀ t i fs n,0=n→Chk (P ⟨t,i,fs,n⟩)):Chk (P g):=match g with
 | ⟨t,i,fs,n⟩=>chP (0=n) fun h=>k t i fs n h
noncomputable def aR2 (ns:List Str) (i j:Nat) (sc:Scope) (st:Stmt):Prop :=
 ∀ {C:Cfg} {lev:Nat} {Γ:List Fn} {A:Around} {env:Env} {ah:Shared} {ac:Addr→Bool} {ρ:Ro} {W Mu:Addr→Bool} {ad:Nat→Addr} {s:Shared} {cc:Addr} {xs:List Str},PlatCode C cc→Frm C lev Γ ns A env ah ac ρ W Mu ad s→env.scope=sc→env.code=.ref cc →
  ρ.lookup j=some (.dat (.tup (xs.map .str)))→((∀ x∈xs,0 < x.length∧x.length≤lim)∧JoinOk "-" (xs.map Txt.strip)=true∧xs.length≤1000)→∀ (Q:Flow→Shared→Prop) (E:Value→Shared→Prop),
  (∀ s',Frm C lev Γ ns A env ah ac (aA2 ρ i (.dat (.str (Txt.join "-" (xs.map Txt.strip))))) W Mu ad s'→Go C ah s'→Q .next s')→wpAny (model C.prog C.w) A (exec st env) Q E s
theorem dZ5 {ns:List Str} {i j:Nat} {sc gsc:Scope} {n0:Nat} {y z f l a e1 e2 m sm:Str} {p0 ap p p1 sap sp px pf pl pa cp gpos q q0:Pos} (hy:aB6 ns sc i y=true) (ha:aB6 ns sc j a=true) (hf:aC4 sc f "filter"=true) (hl:aC4 sc l "len"=true) (h1:"-"=z) (h2:"join"=m) (h3:(ap.endLine == p.line)=true)
  (h4:"x"=e1) (h5:"x"=e2) (h6:"strip"=sm) (h7:(sap.endLine == sp.line)=true) (h8:gsc.kind=.function) (h9:gsc.names=[((".0":Str),NameKind.local),(("x":Str),NameKind.local)]) (h10:gsc.isCoroutine=false) :
  aR2 ns i j sc (.Assign [.Name y q] (.Call (.Attribute (.Constant (.str z) n0 p0) m ap) [.GeneratorExp (.Call (.Attribute (.Name e1 p1) sm sap) [] [] sp) [⟨.Name e2 px,.Call (.Name f pf) [.Name l pl,.Name a pa] [] cp,[],0⟩] gsc gpos] [] p) q0):=by
 subst h1;subst h2;subst h4;subst h5;subst h6
 intro C lev Γ A env ah ac ρ W Mu ad s cc xs P F hs hc hr hx Q E K
 exact wpAny_Assign_Name ((dB0 P F hc hr h3 h7 (gAt hs hf) (gAt hs hl) (vAt hs ha) h8 h9 h10 hx.1 hx.2.1 hx.2.2).toks _ _ fun v ai al aF rv=>aR8 (F.go al aF) (aK9 hs hy).1 (aK9 hs hy).2 rv fun ar aR _=>K ar aR aR.base) rfl
noncomputable def dB2 (ns:List Str) (i j:Nat) (sc:Scope) (st:Stmt):Chk (aR2 ns i j sc st) :=
 aF8 st fun y q v q0 =>
 aH6 (P:=fun v=>aR2 ns i j sc (.Assign [.Name y q] v q0)) v fun o m ap as p =>
 bU4 (P:=fun o=>aR2 ns i j sc (.Assign [.Name y q] (.Call (.Attribute o m ap) as [] p) q0)) o fun z n0 p0 =>
 at1 (P:=fun as=>aR2 ns i j sc (.Assign [.Name y q] (.Call (.Attribute (.Constant (.str z) n0 p0) m ap) as [] p) q0)) as fun g =>
 bI5 (P:=fun g=>aR2 ns i j sc (.Assign [.Name y q] (.Call (.Attribute (.Constant (.str z) n0 p0) m ap) [g] [] p) q0)) g fun x gs gsc gpos =>
 at1 (P:=fun gs=>aR2 ns i j sc (.Assign [.Name y q] (.Call (.Attribute (.Constant (.str z) n0 p0) m ap) [.GeneratorExp x gs gsc gpos] [] p) q0)) gs fun gg =>
 aH6 (P:=fun x=>aR2 ns i j sc (.Assign [.Name y q] (.Call (.Attribute (.Constant (.str z) n0 p0) m ap) [.GeneratorExp x [gg] gsc gpos] [] p) q0)) x fun eo sm sap eas sp =>
 aD3 (P:=fun eo=>aR2 ns i j sc (.Assign [.Name y q] (.Call (.Attribute (.Constant (.str z) n0 p0) m ap) [.GeneratorExp (.Call (.Attribute eo sm sap) eas [] sp) [gg] gsc gpos] [] p) q0)) eo fun e1 p1 =>
 aJ2 (P:=fun eas=>aR2 ns i j sc (.Assign [.Name y q] (.Call (.Attribute (.Constant (.str z) n0 p0) m ap) [.GeneratorExp (.Call (.Attribute (.Name e1 p1) sm sap) eas [] sp) [gg] gsc gpos] [] p) q0)) eas <|
 eN2 (P:=fun gg=>aR2 ns i j sc (.Assign [.Name y q] (.Call (.Attribute (.Constant (.str z) n0 p0) m ap) [.GeneratorExp (.Call (.Attribute (.Name e1 p1) sm sap) [] [] sp) [gg] gsc gpos] [] p) q0)) gg fun tg it ifs na hn =>
 aD3 (P:=fun tg=>aR2 ns i j sc (.Assign [.Name y q] (.Call (.Attribute (.Constant (.str z) n0 p0) m ap) [.GeneratorExp (.Call (.Attribute (.Name e1 p1) sm sap) [] [] sp) [⟨tg,it,ifs,na⟩] gsc gpos] [] p) q0)) tg fun e2 px =>
 aH1 (P:=fun it=>aR2 ns i j sc (.Assign [.Name y q] (.Call (.Attribute (.Constant (.str z) n0 p0) m ap) [.GeneratorExp (.Call (.Attribute (.Name e1 p1) sm sap) [] [] sp) [⟨.Name e2 px,it,ifs,na⟩] gsc gpos] [] p) q0)) it fun f pf bs cp =>
 at2 (P:=fun bs=>aR2 ns i j sc (.Assign [.Name y q] (.Call (.Attribute (.Constant (.str z) n0 p0) m ap) [.GeneratorExp (.Call (.Attribute (.Name e1 p1) sm sap) [] [] sp) [⟨.Name e2 px,.Call (.Name f pf) bs [] cp,ifs,na⟩] gsc gpos] [] p) q0)) bs fun l0 a0 =>
 aD3 (P:=fun l0=>aR2 ns i j sc (.Assign [.Name y q] (.Call (.Attribute (.Constant (.str z) n0 p0) m ap) [.GeneratorExp (.Call (.Attribute (.Name e1 p1) sm sap) [] [] sp) [⟨.Name e2 px,.Call (.Name f pf) [l0,a0] [] cp,ifs,na⟩] gsc gpos] [] p) q0)) l0 fun l pl =>
 aD3 (P:=fun a0=>aR2 ns i j sc (.Assign [.Name y q] (.Call (.Attribute (.Constant (.str z) n0 p0) m ap) [.GeneratorExp (.Call (.Attribute (.Name e1 p1) sm sap) [] [] sp) [⟨.Name e2 px,.Call (.Name f pf) [.Name l pl,a0] [] cp,ifs,na⟩] gsc gpos] [] p) q0)) a0 fun a pa =>
 aJ2 (P:=fun ifs=>aR2 ns i j sc (.Assign [.Name y q] (.Call (.Attribute (.Constant (.str z) n0 p0) m ap) [.GeneratorExp (.Call (.Attribute (.Name e1 p1) sm sap) [] [] sp) [⟨.Name e2 px,.Call (.Name f pf) [.Name l pl,.Name a pa] [] cp,ifs,na⟩] gsc gpos] [] p) q0)) ifs <|
 chB (aB6 ns sc i y) fun hy=>chB (aB6 ns sc j a) fun ha=>chB (aC4 sc f "filter") fun hf=>chB (aC4 sc l "len") fun hl=>chP ("-"=z) fun h1=>chP ("join"=m) fun h2=>chB (ap.endLine == p.line) fun h3=>chP ("x"=e1) fun h4=>chP ("x"=e2) fun h5=>chP ("strip"=sm) fun h6 =>
 chB (sap.endLine == sp.line) fun h7=>chP (gsc.kind=.function) fun h8=>chP (gsc.names=[((".0":Str),NameKind.local),(("x":Str),NameKind.local)]) fun h9=>chP (gsc.isCoroutine=false) fun h10=>yes (hn ▸ dZ5 hy ha hf hl h1 h2 h3 h4 h5 h6 h7 h8 h9 h10)
noncomputable def dJ6 (is:ISs) (ds:List D) (xs:List Str):Option D:=(aD7 [] is [(0,.dat (.tup ds)),(1,.dat (.str (Txt.join "-" (xs.map Txt.strip))))]).bind aC5
noncomputable def dP8 (is:ISs) (ds:List D):Option D:=(bH5 ds).bind fun xs=>if (∀ x∈xs,0 < x.length∧x.length≤lim)∧JoinOk "-" (xs.map Txt.strip)=true∧xs.length≤1000 then dJ6 is ds xs else none
theorem bZ5:∀ {ds:List D} {xs:List Str},bH5 ds=some xs→ds=xs.map .str
 | [],xs,h=>by obtain rfl:=Option.some.inj h;rfl
 | d::ds,xs,h=>by
  cases d<;>try (cases h;done)
  obtain ⟨ys,hy,rfl⟩:=Option.map_eq_some_iff.mp (show (bH5 _).map _=some _ from h)
  rw [bZ5 hy];rfl
noncomputable def bM2 (K:Frag) (fd:FuncData) (ns:List Str):Bool :=
 bL4 ns ["args"] fd.scope&&fd.closure.isEmpty&&(fd.globals == mainGlobals)&&(fd.builtins == builtinsNs)&&codeIn K fd.code fd.qualname&&!fd.scope.isCoroutine&&!fd.scope.isGenerator
noncomputable def eF3 {p:Prop} (z:Value) (k:∀ c,z=.ref c→Chk p):Chk p:=match z,k with
 | .ref c,k=>k c rfl
 | _,_=>no
structure PlatIs (C:Cfg) (lev:Nat) (fa cc:Addr) (ns:List Str) (is:ISs):Prop where
 is:∃ o fd st rest,C.K.lookup fa=some o∧o.data=.func fd∧fd.body=.stmts (st::rest)∧bM2 C.K fd ns=true∧fd.code=.ref cc∧aR2 ns 1 0 fd.scope st∧Xks C lev [] ns is fd.scope rest
noncomputable def dP9 (C:Cfg) (lev:Nat) (fa cc:Addr) (ns:List Str) (is:ISs):Chk (PlatIs C lev fa cc ns is) :=
 bY4 (C.K.lookup fa) fun o ho=>cW4 o.data fun fd hd=>bY3 fd.body fun b hb=>aR0 (P:=fun b=>fd.body=.stmts b→PlatIs C lev fa cc ns is) b (fun st rest=>chB (bM2 C.K fd ns) fun h=>eF3 fd.code fun c hc=>chP (cc=c) fun h3 =>
  (dB2 ns 1 0 fd.scope st).bind fun h4=>(eO7 C lev [] ns is fd.scope rest).bind fun h5=>yes fun hb=>⟨o,fd,st,rest,ho,hd,hb,h,h3 ▸ hc,h4,h5⟩) |>.bind fun h=>yes (h hb)
theorem bP2 {α:Type} {M:Model} {A:Around} {m m':Sem α} {Q:α→Shared→Prop} {E:Value→Shared→Prop} {s:Shared} (e:m=m') (h:wpAny M A m' Q E s):wpAny M A m Q E s:=e ▸ h
theorem dP7 {C:Cfg} {lev:Nat} {fa cc:Addr} {ns:List Str} {is:ISs} (fns:FnsOk C lev []) (kit:Kit C) (P:PlatCode C cc) (hv:∀ vs,bB3 C.K fa vs=(newTuple vs >>= fun r=>pure [(("args":Str),r)])) (h:PlatIs C lev fa cc ns is):CallOk C (lev+1) fa (dP8 is):=by
 refine hid fun Gz zz=>?_
 obtain ⟨o,fd,st,rest,e1,e2,hb,h,hcc,hst,hrest⟩:=h
 refine zz ?_;clear zz Gz
 simp only [bM2,Bool.and_eq_true,Bool.not_eq_true',beq_iff_eq,List.isEmpty_iff] at h
 have S':=bZ9 h.1.1.1.1.1.1
 intro A Mu s vs ds d R S htok M r hg Res K
 refine Al.bind (T:=fun d=>(∀ v s',Go C s s'→Rd C (Fz s'.heap Mu) v d→Res (.ok (.ret v)) s')→codeAny (model C.prog C.w) A (.call (.ref fa) ⟨vs,[]⟩) Res s) (fun xs hxs=>Al.ite fun hz=>Al.bind fun out hrun d hout K=>?_) d hg K
 have hds:=bZ5 hxs
 subst hds
 have hvl:vs.length=xs.length:=by rw [r.length,List.length_map]
 refine codeAny_call_function (by have:=R.depth;exact bH6 this) (S.top.kin fa _ e1) e2 h.1.2 h.2 hb (codeRec_of S.top.kin h.1.1.2) (bP2 ((bG7 e1 e2 vs).symm.trans (hv vs)) (wpAny_bind (wpAny_newTuple ?_ (hvl ▸ aA9 hz.2.2 (by decide)))))
 refine wpAny_pure ?_
 rw [h.1.1.1.1.1.2,h.1.1.1.1.2,h.1.1.1.2]
 have aj:Go C s { s with heap:=s.heap.push (aU9 vs 0) }:=.push _
 refine bG4 (params:=["args"]) (vs:=[.ref s.heap.objs.size]) (ds:=[.tup (xs.map .str)]) fns kit S' R (S.go aj) (M.ext aj.ext) (.one (.tup (Fz.push M rfl) (r.mono (.ext aj.ext)))) rfl (.inl htok) fun env Mv h' tk hs hf hc F=>?_
 refine ⟨F.ok.top.nolimit,codeAny_func (wpAny_execs_cons (hst P F hs (hc.trans hcc) rfl hz _ _ fun ar aR _=>hrest aR hs _ hrun _ _ ?_))⟩
 cases out with
 | next ρ=>exact nos hout
 | brk ρ=>exact nos hout
 | ret x=>obtain rfl:=Option.some.inj hout;exact fun v s' g' _ rv=>K v s' (aj.trans g') rv
end Mine
end
section
open PySem PySem.W PyProof.Rows PySem.Calls PySem.Spec
set_option autoImplicit false
set_option maxRecDepth 100000
namespace Mine
noncomputable def aS1:List Str:=["version","component_re","result","v","t"]
noncomputable def ps_comparable_version:List Str:=["version"]
noncomputable def aE4:NSs :=
 (.cons (.plain (.asg 1 (.pat)))
 (.cons (.plain (.own 2 (.nil)))
 (.cons (.for1 3 (.seq (.reSplit (.var 1) (.var 0)))
  (.cons (.ite (.cmp .notIn (.var 3) (.str "._+-"))
   (.cons (.tryInt 3 4)
   (.cons (.plain (.extd 2 (.tup (.cons (.var 4) (.cons (.var 3) .nil)))))
   .nil))
   .nil)
  .nil))
 (.cons (.freeze 2)
 (.cons (.plain (.ret (.var 2)))
 .nil)))))
noncomputable def bW7:List Str:=["args","platform","cleaned","x"]
noncomputable def dP6:List Str:=["args"]
noncomputable def aQ0:ISs :=
 (.cons (.asg 1 (.repl (.var 1) " " "_"))
 (.cons (.asg 1 (.repl (.var 1) "/" "-"))
 (.cons (.asg 1 (.repl (.var 1) "\\" "-"))
 (.cons (.asg 1 (.repl (.var 1) ":" "-"))
 (.cons (.asg 1 (.repl (.var 1) ";" "-"))
 (.cons (.asg 1 (.repl (.var 1) "\"" "-"))
 (.cons (.asg 1 (.repl (.var 1) "(" "-"))
 (.cons (.asg 1 (.repl (.var 1) ")" "-"))
 (.cons (.asg 1 (.repl (.var 1) "unknown" ""))
 (.cons (.whil 5000 (.tr (.bool true))
  (.cons (.asg 2 (.repl (.var 1) "--" "-"))
  (.cons (.ite (.cmp .eq (.var 2) (.var 1))
   (.cons (.brk)
   .nil)
   .nil)
  (.cons (.asg 1 (.var 2))
  .nil))))
 (.cons (.whil 5000 (.bools true (.cons (.tr (.var 1)) (.cons (.cmp .eq (.idx (.var 1) (.neg 1)) (.str "-")) .nil)))
  (.cons (.asg 1 (.slcTo (.var 1) (.neg 1)))
  .nil))
 (.cons (.ret (.var 1))
 .nil))))))))))))
noncomputable def bI0:List Str:=["target","source","new_callers","func","caller","i","j"]
noncomputable def ps_add_callers:List Str:=["target","source"]
noncomputable def aK4:ISs :=
 (.cons (.ownDict 2)
 (.cons (.forItems 3 4 (.var 0)
  (.cons (.setIdx 2 (.var 3) (.var 4))
  .nil))
 (.cons (.forItems 3 4 (.var 1)
  (.cons (.ite (.cmp .in_ (.var 3) (.var 2))
   (.cons (.ite (.tr (.isTup (.var 4)))
    (.cons .dead .nil)
    (.cons (.augIdx 2 (.var 3) .add (.var 4))
    .nil))
   .nil)
   (.cons (.setIdx 2 (.var 3) (.var 4))
   .nil))
  .nil))
 (.cons (.freeze 2)
 (.cons (.ret (.var 2))
 .nil)))))
noncomputable def bH9:List Str:=["callers","nc","calls"]
noncomputable def ps_count_calls:List Str:=["callers"]
noncomputable def aK3:ISs :=
 (.cons (.asg 1 (.int 0))
 (.cons (.for1 2 (.vals (.var 0))
  (.cons (.aug 1 .add (.var 2))
  .nil))
 (.cons (.ret (.var 1))
 .nil)))
noncomputable def bW9:List Str:=["data","width","swapped_data","i","j"]
noncomputable def ps_byteswap:List Str:=["data","width"]
noncomputable def aQ2:NSs :=
 (.cons (.barr 2 (.len (.var 0)))
 (.cons (.for1 3 (.rng3 (.int 0) (.len (.var 0)) (.var 1))
  (.cons (.for1 4 (.rng1 (.var 1))
   (.cons (.plain (.setIdx 2 (.bin .sub (.bin .sub (.bin .add (.var 3) (.var 1)) (.int 1)) (.var 4)) (.idx (.var 0) (.bin .add (.var 3) (.var 4)))))
   .nil))
  .nil))
 (.cons (.plain (.ret (.bytesOf (.var 2))))
 .nil)))
noncomputable def cH5:List Str:=["script","cells","place"]
noncomputable def ps_l_cells:List Str:=["script"]
noncomputable def aU4:ISs :=
 (.cons (.own 1 (.cons (.int 38) (.cons (.int 4) (.cons (.int 2918576) .nil))))
 (.cons (.for1 2 (.rng1 (.len (.var 0)))
  (.cons (.augIdx 1 (.bin .mod (.var 2) (.int 3)) .add (.idx (.var 0) (.var 2)))
  .nil))
 (.cons (.freeze 1)
 (.cons (.ret (.var 1))
 .nil))))
noncomputable def cH0:List Str:=["size","pick","rest","signs","place"]
noncomputable def ps_l_signs:List Str:=["size","pick"]
noncomputable def aT9:ISs :=
 (.cons (.own 2 (.cons (.str "alpha") (.cons (.str "098") (.cons (.str "x") (.cons (.str "dev") (.cons (.str "pl") (.cons (.str "beta") (.cons (.str "c") .nil))))))))
 (.cons (.own 3 (.nil))
 (.cons (.for1 4 (.rng1 (.var 0))
  (.cons (.appPop 3 2 (.bin .mod (.var 1) (.len (.var 2))))
  (.cons (.aug 1 .fdiv (.bin .add (.len (.var 2)) (.int 1)))
  .nil)))
 (.cons (.freeze 3)
 (.cons (.ret (.var 3))
 .nil)))))
noncomputable def cH3:List Str:=["size","looks","place"]
noncomputable def ps_l_marks:List Str:=["size","looks"]
noncomputable def aU2:ISs :=
 (.cons (.ret (.comp (.idx (.str " /\\:;\"()") (.bin .mod (.bin .fdiv (.var 1) (.bin .pow (.int 8) (.var 2))) (.int 8))) 2 (.rng1 (.var 0)) (.nil)))
 .nil)
noncomputable def bR6:List Str:=["sign","ranks"]
noncomputable def ps_l_reading:List Str:=["sign"]
noncomputable def bA6:ISs :=
 (.cons (.asg 1 (.dictC [("alpha",20),("x",0),("dev",10),("pl",200),("beta",30),("c",40)]))
 (.cons (.ite (.cmp .eq (.var 0) (.str "098"))
  (.cons (.ret (.list (.cons (.int 100) (.cons (.int 98) .nil))))
  .nil)
  .nil)
 (.cons (.ret (.list (.cons (.idx (.var 1) (.var 0)) (.cons (.var 0) .nil))))
 .nil)))
noncomputable def cH2:List Str:=["signs","marks","size","dressed","names","first","row","last","k","fields"]
noncomputable def ps_l_names:List Str:=["signs","marks"]
noncomputable def aU1:ISs :=
 (.cons (.asg 2 (.len (.var 0)))
 (.cons (.asg 3 (.comp (.bin .add (.bin .add (.str " ") (.idx (.var 0) (.var 8))) (.idx (.var 1) (.var 8))) 8 (.rng1 (.var 2)) (.nil)))
 (.cons (.own 4 (.nil))
 (.cons (.for1 5 (.rng1 (.var 2))
  (.cons (.own 6 (.nil))
  (.cons (.for1 7 (.rng1 (.var 2))
   (.cons (.asgC 9 (.ite (.chain (.var 5) .le (.var 8) .le (.var 7)) (.idx (.var 3) (.var 8)) (.str "unknown")) 8 (.rng1 (.var 2)) (.nil))
   (.cons (.app 6 (.ite (.cmp .le (.var 5) (.var 7)) (.callStar 0 (.var 9)) (.str "")))
   .nil)))
  (.cons (.freeze 6)
  (.cons (.app 4 (.var 6))
  .nil)))))
 (.cons (.freeze 4)
 (.cons (.ret (.var 4))
 .nil))))))
noncomputable def bH8:List Str:=["signs","names","first","lead","last"]
noncomputable def ps_l_due_names:List Str:=["signs"]
noncomputable def aK2:ISs :=
 (.cons (.own 1 (.nil))
 (.cons (.for1 2 (.rng1 (.len (.var 0)))
  (.cons (.asg 3 (.ite (.cmp .gt (.var 2) (.int 0)) (.str "-") (.str "")))
  (.cons (.app 1 (.comp (.ite (.cmp .le (.var 2) (.var 4)) (.bin .add (.var 3) (.join "-" (.slcFT (.var 0) (.var 2) (.bin .add (.var 4) (.int 1))))) (.str "")) 4 (.rng1 (.len (.var 0))) (.nil)))
  .nil)))
 (.cons (.freeze 1)
 (.cons (.ret (.var 1))
 .nil))))
noncomputable def bH7:List Str:=["signs","marks","field","due","k"]
noncomputable def ps_l_one_field:List Str:=["signs","marks"]
noncomputable def aK1:ISs :=
 (.cons (.asg 2 (.str ""))
 (.cons (.asg 3 (.str ""))
 (.cons (.for1 4 (.rng1 (.len (.var 0)))
  (.cons (.aug 2 .add (.bin .add (.bin .add (.str " ") (.upper (.idx (.var 0) (.var 4)))) (.bin .mul (.idx (.var 1) (.var 4)) (.int 7))))
  (.cons (.ite (.cmp .gt (.var 4) (.int 0))
   (.cons (.aug 3 .add (.bin .add (.ite (.cmp .eq (.idx (.var 1) (.bin .sub (.var 4) (.int 1))) (.str " ")) (.str "_______") (.str "-")) (.str "_")))
   .nil)
   .nil)
  (.cons (.aug 3 .add (.upper (.idx (.var 0) (.var 4))))
  .nil))))
 (.cons (.ret (.cmp .eq (.call 0 (.cons (.var 2) .nil)) (.var 3)))
 .nil))))
noncomputable def cH4:List Str:=["size","pick","drawn","first","last"]
noncomputable def ps_l_drawn:List Str:=["size","pick"]
noncomputable def aU3:ISs :=
 (.cons (.own 2 (.nil))
 (.cons (.for1 3 (.rng1 (.var 0))
  (.cons (.for1 4 (.rng2 (.var 3) (.var 0))
   (.cons (.ite (.cmp .eq (.bin .mod (.var 1) (.int 4)) (.int 1))
    (.cons (.app 2 (.tup (.cons (.var 3) (.cons (.var 4) .nil))))
    .nil)
    .nil)
   (.cons (.aug 1 .fdiv (.int 4))
   .nil)))
  .nil))
 (.cons (.freeze 2)
 (.cons (.ret (.var 2))
 .nil))))
noncomputable def bR7:List Str:=["names","asked","held","record","reached","first","last","name","row","told","due","low","high"]
noncomputable def ps_l_reached:List Str:=["names","asked","held"]
noncomputable def aN1:ISs :=
 (.cons (.entNew 3)
 (.cons (.for2 5 6 (.seq (.var 2))
  (.cons (.asg 7 (.idx (.idx (.var 0) (.var 5)) (.var 6)))
  (.cons (.entApp 3 (.ite (.cmp .eq (.bin .mod (.bin .add (.var 5) (.var 6)) (.int 2)) (.int 1)) (.upper (.var 7)) (.var 7)))
  .nil)))
 (.cons (.ite (.cmp .eq (.bin .mod (.len (.var 2)) (.int 2)) (.int 0))
  (.cons (.entIns 3 (.bin .fdiv (.len (.var 2)) (.int 2)) "*")
  .nil)
  .nil)
 (.cons (.ite (.cmp .isNot (.applies 0 (.var 3) (.none)) (.cmp .eq (.bin .mod (.len (.var 2)) (.int 2)) (.int 0)))
  (.cons (.ret (.list (.nil)))
  .nil)
  .nil)
 (.cons (.own 4 (.nil))
 (.cons (.for1 5 (.rng1 (.len (.var 0)))
  (.cons (.ownMul 8 (.cons (.bool false) .nil) (.var 5))
  (.cons (.for1 6 (.rng2 (.var 5) (.len (.var 0)))
   (.cons (.asg 9 (.applies 0 (.var 3) (.idx (.idx (.var 1) (.var 5)) (.var 6))))
   (.cons (.asg 10 (.cmp .ne (.comp2 (.var 11) 11 12 (.seq (.var 2)) (.cons (.bools true (.cons (.cmp .le (.var 5) (.var 11)) (.cons (.cmp .le (.var 12) (.var 6)) .nil))) .nil)) (.list (.nil))))
   (.cons (.ite (.cmp .isNot (.var 9) (.var 10))
    (.cons (.ret (.list (.nil)))
    .nil)
    .nil)
   (.cons (.app 8 (.var 9))
   .nil)))))
  (.cons (.freeze 8)
  (.cons (.app 4 (.var 8))
  .nil)))))
 (.cons (.freeze 4)
 (.cons (.ret (.var 4))
 .nil))))))))
noncomputable def cQ3:List Str:=["reached","size","left","first","last","ahead","behind"]
noncomputable def ps_l_left:List Str:=["reached"]
noncomputable def aX8:ISs :=
 (.cons (.asg 1 (.len (.var 0)))
 (.cons (.own 2 (.nil))
 (.cons (.for1 3 (.rng1 (.var 1))
  (.cons (.for1 4 (.rng2 (.var 3) (.var 1))
   (.cons (.asg 5 (.bools false (.cons (.cmp .eq (.var 3) (.int 0)) (.cons (.idx (.idx (.var 0) (.bin .sub (.var 3) (.int 1))) (.var 4)) .nil))))
   (.cons (.asg 6 (.bools false (.cons (.cmp .eq (.var 4) (.bin .sub (.var 1) (.int 1))) (.cons (.idx (.idx (.var 0) (.var 3)) (.bin .add (.var 4) (.int 1))) .nil))))
   (.cons (.ite (.bools true (.cons (.tr (.var 5)) (.cons (.tr (.var 6)) (.cons (.not (.tr (.idx (.idx (.var 0) (.var 3)) (.var 4)))) .nil))))
    (.cons (.app 2 (.tup (.cons (.var 3) (.cons (.var 4) .nil))))
    .nil)
    .nil)
   .nil))))
  .nil))
 (.cons (.freeze 2)
 (.cons (.ret (.var 2))
 .nil)))))
noncomputable def cH1:List Str:=["names","asked","held","pages","turn","reached"]
noncomputable def ps_l_pages:List Str:=["names","asked","held"]
noncomputable def aU0:ISs :=
 (.cons (.own 3 (.nil))
 (.cons (.for1 4 (.rng1 (.bin .add (.len (.var 0)) (.int 2)))
  (.cons (.asg 5 (.call 0 (.cons (.var 0) (.cons (.var 1) (.cons (.var 2) .nil)))))
  (.cons (.ite (.cmp .eq (.var 5) (.list (.nil)))
   (.cons (.ret (.list (.nil)))
   .nil)
   .nil)
  (.cons (.asg 2 (.call 1 (.cons (.var 5) .nil)))
  (.cons (.app 3 (.var 2))
  .nil)))))
 (.cons (.freeze 3)
 (.cons (.ret (.var 3))
 .nil))))
noncomputable def cQ4:List Str:=["signs","names","pages","book","empty","page","first","last","due","sign","told","begun","ended","both"]
noncomputable def ps_l_book:List Str:=["signs","names","pages"]
noncomputable def aX9:NSs :=
 (.cons (.plain (.asg 3 (.dict0)))
 (.cons (.plain (.asg 4 (.dict0)))
 (.cons (.for1 5 (.seq (.var 2))
  (.cons (.for2 6 7 (.seq (.var 5))
   (.cons (.plain (.own 8 (.nil)))
   (.cons (.for1 9 (.seq (.slcFT (.var 0) (.var 6) (.bin .add (.var 7) (.int 1))))
    (.cons (.plain (.extd 8 (.call 0 (.cons (.var 9) .nil))))
    .nil))
   (.cons (.freeze 8)
   (.cons (.turn 10 0 (.cons (.idx (.idx (.var 1) (.var 6)) (.var 7)) .nil))
   (.cons (.ite (.cmp .ne (.var 10) (.var 8))
    (.cons (.plain (.ret (.dict0)))
    .nil)
    .nil)
   (.cons (.plain (.asg 11 (.call 1 (.cons (.var 4) (.cons (.dict1 (.idx (.var 10) (.int 1)) (.int 1)) .nil)))))
   (.cons (.plain (.asg 12 (.dict1 (.idx (.var 10) (.bin .sub (.len (.var 10)) (.int 1))) (.int 1))))
   (.cons (.plain (.asg 13 (.call 1 (.cons (.var 11) (.cons (.var 12) .nil)))))
   (.cons (.ite (.bools false (.cons (.cmp .ne (.var 11) (.dict1 (.idx (.var 8) (.int 1)) (.int 1))) (.cons (.cmp .ne (.var 12) (.dict1 (.idx (.var 8) (.bin .sub (.len (.var 8)) (.int 1))) (.int 1))) .nil)))
    (.cons (.plain (.ret (.dict0)))
    .nil)
    .nil)
   (.cons (.plain (.asg 3 (.call 1 (.cons (.var 3) (.cons (.var 13) .nil)))))
   .nil)))))))))))
  .nil))
 (.cons (.plain (.ret (.ite (.cmp .eq (.var 4) (.dict0)) (.var 3) (.dict0))))
 .nil))))
noncomputable def bW8:List Str:=["page","size","mark","octets","first","last","k"]
noncomputable def ps_l_octets:List Str:=["page","size","mark"]
noncomputable def aQ1:ISs :=
 (.cons (.own 3 (.nil))
 (.cons (.for2 4 5 (.seq (.var 0))
  (.cons (.extd 3 (.comp (.ite (.chain (.var 4) .le (.var 6) .le (.var 5)) (.var 2) (.int 0)) 6 (.rng1 (.var 1)) (.nil)))
  .nil))
 (.cons (.ret (.bytesOf (.var 3)))
 .nil)))
noncomputable def cG9:List Str:=["script","cells","size","signs","marks","names","whole","tails","asked","pages","book","keys","both","mark","turned","mirror","low","sign","k","high"]
noncomputable def ps_lawMain:List Str:=["script"]
noncomputable def aT8:NSs :=
 (.cons (.plain (.asg 1 (.call 0 (.cons (.var 0) .nil))))
 (.cons (.plain (.asg 2 (.bin .add (.int 2) (.bin .mod (.idx (.var 1) (.int 0)) (.int 4)))))
 (.cons (.plain (.asg 3 (.call 1 (.cons (.var 2) (.cons (.bin .mod (.bin .fdiv (.idx (.var 1) (.int 0)) (.int 4)) (.int 2520)) .nil)))))
 (.cons (.plain (.asg 4 (.call 2 (.cons (.var 2) (.cons (.bin .mod (.idx (.var 1) (.int 2)) (.int 32768)) .nil)))))
 (.cons (.plain (.asg 5 (.call 3 (.cons (.var 3) (.cons (.var 4) .nil)))))
 (.cons (.ite (.bools false (.cons (.cmp .ne (.var 5) (.call 4 (.cons (.var 3) .nil))) (.cons (.not (.tr (.call 5 (.cons (.var 3) (.cons (.var 4) .nil))))) .nil)))
  (.cons (.plain (.ret (.bool false)))
  .nil)
  .nil)
 (.cons (.plain (.asg 6 (.idx (.idx (.var 5) (.int 0)) (.bin .sub (.var 2) (.int 1)))))
 (.cons (.plain (.asg 7 (.list (.cons (.str "") (.cons (.bin .add (.str "*/") (.var 6)) (.cons (.bin .add (.bin .add (.bin .add (.str "*/") (.var 6)) (.str "/")) (.var 6)) .nil))))))
 (.cons (.plain (.asgC 8 (.comp (.bin .add (.upper (.idx (.idx (.var 5) (.var 16)) (.var 19))) (.idx (.var 7) (.bin .mod (.bin .add (.var 16) (.var 19)) (.int 3)))) 19 (.rng1 (.var 2)) (.nil)) 16 (.rng1 (.var 2)) (.nil)))
 (.cons (.plain (.asg 9 (.call 7 (.cons (.var 5) (.cons (.var 8) (.cons (.call 6 (.cons (.var 2) (.cons (.bin .mod (.idx (.var 1) (.int 1)) (.bin .pow (.int 4) (.int 15))) .nil))) .nil))))))
 (.cons (.ite (.cmp .eq (.var 9) (.list (.nil)))
  (.cons (.plain (.ret (.bool false)))
  .nil)
  .nil)
 (.cons (.turn 10 0 (.cons (.var 3) (.cons (.var 5) (.cons (.slcTo (.var 9) (.bin .add (.var 2) (.int 1))) .nil))))
 (.cons (.plain (.asg 11 (.comp (.idx (.call 8 (.cons (.var 17) .nil)) (.int 1)) 17 (.seq (.var 3)) (.nil))))
 (.cons (.plain (.asgC 12 (.bin .add (.dget (.var 10) (.idx (.var 11) (.var 18)) (.int 0)) (.dget (.var 10) (.idx (.var 11) (.bin .sub (.bin .sub (.var 2) (.int 1)) (.var 18))) (.int 0))) 18 (.rng1 (.var 2)) (.nil)))
 (.cons (.ite (.bools false (.cons (.cmp .ne (.var 12) (.bin .mul (.list (.cons (.bin .add (.bin .mul (.int 2) (.var 2)) (.int 2)) .nil)) (.var 2))) (.cons (.cmp .ne (.call 9 (.cons (.var 10) .nil)) (.bin .add (.bin .mul (.var 2) (.var 2)) (.var 2))) .nil)))
  (.cons (.plain (.ret (.bool false)))
  .nil)
  .nil)
 (.cons (.plain (.asg 13 (.bin .add (.int 1) (.bin .mod (.bin .fdiv (.idx (.var 1) (.int 2)) (.int 32768)) (.int 255)))))
 (.cons (.turn 14 1 (.cons (.call 10 (.cons (.idx (.var 9) (.int 0)) (.cons (.var 2) (.cons (.var 13) .nil)))) (.cons (.var 2) .nil)))
 (.cons (.plain (.asg 15 (.call 10 (.cons (.listRev (.idx (.var 9) (.bin .add (.var 2) (.int 1)))) (.cons (.var 2) (.cons (.var 13) .nil))))))
 (.cons (.plain (.ret (.bools true (.cons (.isBytes (.var 14)) (.cons (.cmp .eq (.var 14) (.var 15)) .nil)))))
 .nil)))))))))))))))))))
noncomputable def bM6:List Str:=["self","useragent","agent"]
noncomputable def ps_applies_to:List Str:=["self","useragent"]
noncomputable def aG8:ISs :=
 (.cons (.ite (.cmp .is_ (.var 1) (.none))
  (.cons (.ret (.cmp .in_ (.str "*") (.agents (.var 0))))
  .nil)
  .nil)
 (.cons (.asg 1 (.lower (.idx (.splitS (.var 1) "/") (.int 0))))
 (.cons (.for1 2 (.seq (.agents (.var 0)))
  (.cons (.ite (.cmp .ne (.var 2) (.str "*"))
   (.cons (.asg 2 (.lower (.var 2)))
   (.cons (.ite (.cmp .in_ (.var 2) (.var 1))
    (.cons (.ret (.bool true))
    .nil)
    .nil)
   .nil))
   .nil)
  .nil))
 (.cons (.ret (.bool false))
 .nil))))
noncomputable def aG0:List D→Option D:=dP8 aQ0
noncomputable def aY:List Fn:=[]
noncomputable def aT0:List D→Option D:=bP0 ps_l_cells.length aY aU4
noncomputable def aZ:List Fn:=[]
noncomputable def aS5:List D→Option D:=bP0 ps_l_signs.length aZ aT9
noncomputable def bM:List Fn:=[]
noncomputable def aS8:List D→Option D:=bP0 ps_l_marks.length bM aU2
noncomputable def bW:List Fn:=[]
noncomputable def aJ9:List D→Option D:=bP0 ps_l_reading.length bW bA6
noncomputable def aI:List Fn:=[]
noncomputable def aI8:List D→Option D:=bP0 ps_l_due_names.length aI aK2
noncomputable def aV:List Fn:=[]
noncomputable def aS9:List D→Option D:=bP0 ps_l_drawn.length aV aU3
noncomputable def aX:List Fn:=[]
noncomputable def bN1:List D→Option D:=bP0 ps_l_left.length aX aX8
noncomputable def aW:List Fn:=[]
noncomputable def aO6:List D→Option D:=bP0 ps_l_octets.length aW aQ1
noncomputable def ay:List Fn:=[]
noncomputable def aG4:List D→Option D:=bP0 ps_applies_to.length ay aG8
noncomputable def aA:List Fn:=[]
noncomputable def aQ4:List D→Option D:=bP0 ps_add_callers.length aA aK4
noncomputable def aO:List Fn:=[]
noncomputable def aI9:List D→Option D:=bP0 ps_count_calls.length aO aK3
noncomputable def aH:List Fn:=[⟨"_platform",aG0⟩]
noncomputable def aS7:List D→Option D:=bP0 ps_l_names.length aH aU1
noncomputable def aC:List Fn:=[⟨"_platform",aG0⟩]
noncomputable def aI7:List D→Option D:=bP0 ps_l_one_field.length aC aK1
noncomputable def ak:List Fn:=[⟨"applies_to",aG4⟩]
noncomputable def aW0:List D→Option D:=bP0 ps_l_reached.length ak aN1
noncomputable def aS:List Fn:=[⟨"_law_reached",aW0⟩,⟨"_law_left",bN1⟩]
noncomputable def aS6:List D→Option D:=bP0 ps_l_pages.length aS aU0
noncomputable def aJ:List Fn:=[]
noncomputable def aT:List Fn:=[]
noncomputable def aO7:List D→Option D:=bY0 ps_byteswap.length aJ aT aQ2
noncomputable def am:List Fn:=[]
noncomputable def au:List Fn:=[]
noncomputable def aE9:List D→Option D:=bY0 ps_comparable_version.length am au aE4
noncomputable def an:List Fn:=[⟨"_law_reading",aJ9⟩,⟨"add_callers",aQ4⟩]
noncomputable def aw:List Fn:=[⟨"_comparable_version",aE9⟩]
noncomputable def aY1:List D→Option D:=bY0 ps_l_book.length an aw aX9
noncomputable def ab:List Fn:=[⟨"_law_cells",aT0⟩,⟨"_law_signs",aS5⟩,⟨"_law_marks",aS8⟩,⟨"_law_names",aS7⟩,⟨"_law_due_names",aI8⟩,⟨"_law_one_field",aI7⟩,⟨"_law_drawn",aS9⟩,⟨"_law_pages",aS6⟩,⟨"_law_reading",aJ9⟩,⟨"count_calls",aI9⟩,⟨"_law_octets",aO6⟩]
noncomputable def aK:List Fn:=[⟨"_law_book",aY1⟩,⟨"_byteswap",aO7⟩]
noncomputable def bF4:List D→Option D:=bY0 ps_lawMain.length ab aK aT8
end Mine
end
section
open PySem PySem.W PyProof.Rows PySem.Calls PySem.Spec
open Sem (wp)
set_option autoImplicit false
set_option maxRecDepth 100000
namespace Mine
noncomputable def eN1 {α:Type} {P:List α→Prop} (l:List α) (k:∀ x y r,Chk (P (x::y::r))):Chk (P l):=aR0 l fun x r=>aR0 (P:=fun r=>P (x::r)) r fun y r=>k x y r
noncomputable def aR3 (name:Str) (l:Bool) (st:Stmt):Prop:=∃ p ap sp q n,st=.Assign [.Attribute (.Name "self" p) name ap] (if l=true then .List [] q else .Constant .none n q) sp
noncomputable def dC9 (name:Str) (l:Bool) (st:Stmt):Chk (aR3 name l st) :=
 bG9 st fun ts v sp=>at1 (P:=fun ts=>aR3 name l (.Assign ts v sp)) ts fun t=>aM6 (P:=fun t=>aR3 name l (.Assign [t] v sp)) t fun o a ap=>aD3 (P:=fun o=>aR3 name l (.Assign [.Attribute o a ap] v sp)) o fun x p=>chP ("self"=x) fun hx=>chP (name=a) fun ha =>
  match l with
  | true=>cD3 (P:=fun v=>aR3 name true (.Assign [.Attribute (.Name x p) a ap] v sp)) v fun vs q=>aJ2 (P:=fun vs=>aR3 name true (.Assign [.Attribute (.Name x p) a ap] (.List vs q) sp)) vs (yes (hx ▸ ha ▸ ⟨p,ap,sp,q,0,rfl⟩))
  | false=>aP1 (P:=fun v=>aR3 name false (.Assign [.Attribute (.Name x p) a ap] v sp)) v fun c n q=>cW2 (P:=fun c=>aR3 name false (.Assign [.Attribute (.Name x p) a ap] (.Constant c n q) sp)) c (yes (hx ▸ ha ▸ ⟨p,ap,sp,q,n,rfl⟩))
noncomputable def bM9 (K:Frag) (fd:FuncData):Bool :=
 decide (fd.scope.kind=.function)&&decide (fd.scope.names=[(("self":Str),NameKind.local)])&&fd.closure.isEmpty&&(fd.globals == mainGlobals)&&(fd.builtins == builtinsNs)&&codeIn K fd.code fd.qualname&&!fd.scope.isCoroutine&&!fd.scope.isGenerator
structure InitIs (K:Frag) (fa:Addr):Prop where
 is:∃ o fd s1 s2 s3 s4,K.lookup fa=some o∧o.data=.func fd∧fd.body=.stmts [s1,s2,s3,s4]∧bM9 K fd=true∧aR3 "useragents" true s1∧aR3 "rulelines" true s2∧aR3 "delay" false s3∧aR3 "req_rate" false s4
noncomputable def dR6 (K:Frag) (fa:Addr):Chk (InitIs K fa) :=
 bY4 (K.lookup fa) fun o ho=>cW4 o.data fun fd hd=>bY3 fd.body fun b hb=>chB (bM9 K fd) fun h=>(eN1 (P:=fun b=>fd.body=.stmts b→InitIs K fa) b fun s1 s2 r=>at2 (P:=fun r=>fd.body=.stmts (s1::s2::r)→InitIs K fa) r fun s3 s4 =>
  (dC9 "useragents" true s1).bind fun h1=>(dC9 "rulelines" true s2).bind fun h2=>(dC9 "delay" false s3).bind fun h3=>(dC9 "req_rate" false s4).bind fun h4=>yes fun hb=>⟨o,fd,s1,s2,s3,s4,ho,hd,hb,h,h1,h2,h3,h4⟩).bind fun h=>yes (h hb)
structure EntOk (C:Cfg) (fI:Addr):Prop where
 makes:makesIn C.K C.EC=true
 init:findIn C.K (.ref C.EC) "__init__"=some (some (.ref fI))
 fn:typeIn C.K (.ref fI)=some (.type "function")
 chk:InitIs C.K fI
 binds:aY7 C.K fI ["self"]
 set:findIn C.K (.ref C.EC) "__setattr__"=some (some (.builtin "object.__setattr__"))
 plain:plainOver C.K C.EC=true
 t1:takerIn C.K C.EC "useragents"=some none
 t2:takerIn C.K C.EC "rulelines"=some none
 t3:takerIn C.K C.EC "delay"=some none
 t4:takerIn C.K C.EC "req_rate"=some none
 has:hasDictIn C.K C.EC=true
section
variable {C:Cfg} {fI:Addr}
theorem bM0 (name:Str) (h:Int) (key v:Value):∀ (es:List DictEntry),(putL name h key v es).length≤es.length+1
 | []=>by simp [putL]
 | e::r=>by
  have ih:=bM0 name h key v r
  dsimp only [putL];split
  ·simp
  ·simp only [List.length_cons];exact bL9 ih (cl rfl)
theorem bM1 {name:Str} {h:Int} {key v:Value} {es:List DictEntry} {k:Nat} (hk:es.length≤k):(putL name h key v es).length≤k+1:=aA9 (bM0 name h key v es) (Nat.succ_le_succ hk)
structure ES (C:Cfg) (az:Heap) (L:Addr) (m:Str→Option Value) (x dx:Addr) (s:Shared) (nv:List (Addr × Obj)) (es:List DictEntry) (n:Nat):Prop where
 fr:Fr az L s.heap m
 nw:News az L s.heap (nv++(dx,dictOf es n)::[(x,instObj C.EC dx)])
 ne:∀ q∈nv,q.1≠dx
structure After (s s':Shared):Prop where
 toks:s.toks≤s'.toks
 os:s'.os=s.os
 gens:s'.gens=s.gens
theorem After.trans {s s' s'':Shared} (a:After s s') (b:After s' s''):After s s'':=⟨aA9 a.toks b.toks,b.os.trans a.os,b.gens.trans a.gens⟩
section
variable {A:Around} {E:Value→Shared→Prop} {s:Shared} {az:Heap} {x dx:Addr} {m:Str→Option Value} {env:Env} {nv:List (Addr × Obj)} {es:List DictEntry} {n:Nat} {Q:Flow→Shared→Prop} {name:Str}
theorem bZ7 {p ap sp:Pos} {value:Expr} (K:EntOk C fI) (bR:C.K.In az) (hk:env.scope.kind=.function) (hl:env.scope.names.lookup ("self":Str)=some .local)
  (hm:m "self"=some (.ref x)) (hd:x≠dx) (ht:takerIn C.K C.EC name=some none) (hg:(getL name es).isSome=true) (hz:es.length≤900) (hsw:swapsWith value (some (.Attribute (.Name "self" p) name ap)) sp.line env=pure false)
  (hv:wpAny (model C.prog C.w) A (eval value env) (fun v s'=>∃ nv,ES C az env.locals m x dx s' nv es n∧∀ s'' tk n',ES C az env.locals m x dx s'' nv (putL name (PyData.keyHash C.w.params name) (.str name tk) v es) n'→After s' s''→Q .next s'') E s) :
  wpAny (model C.prog C.w) A (exec (.Assign [.Attribute (.Name "self" p) name ap] value sp) env) Q E s:=by
 refine plainObj_wpAny_Assign_Attribute (wpAny_mono hv (fun v s' hq=>?_) fun _ _ z=>z) hsw
 obtain ⟨nv,S,k⟩:=hq
 refine wpAny_Name (wpAny_loadName_local hk hl S.fr.ns hm ?_) (by decide)
 have I:InstAt s'.heap x (instObj C.EC dx) C.EC (some (dictOf es n)):=InstAt.of_news S.nw (List.mem_append_right _ (List.mem_cons_of_mem _ (.head _))) (List.mem_append_right _ (List.mem_cons_self ..))
 have U:∀ o o',Upd dx o o' (nv++(dx,o)::[(x,instObj C.EC dx)]) (nv++(dx,o')::[(x,instObj C.EC dx)]):=by
  have ne:=S.ne
  clear S k I
  intro o o'
  induction nv with
  | nil=>exact .head fun q hq=>by rw [List.mem_singleton.mp hq];exact hd
  | cons q r ih=>exact .tail (ne q (.head _)) (ih fun q' h=>ne q' (.tail _ h))
 refine set_dict S.fr bR S.nw I rfl K.set K.plain ht K.has hg (es':=putL name (PyData.keyHash C.w.params name) (.str name (s'.toks+1)) v es) (n':=putN name es n) rfl (U _ _) ?_ fun h' F' N'=>?_
 ·have:=bM0 name (PyData.keyHash C.w.params name) (.str name (s'.toks+1)) v es
  lia
 ·exact k _ _ _ ⟨F',N',S.ne⟩ ⟨Nat.le_add_right _ 2,rfl,rfl⟩
theorem bQ2 {st:Stmt} (h:aR3 name false st) (K:EntOk C fI) (bR:C.K.In az) (hk:env.scope.kind=.function) (hl:env.scope.names.lookup ("self":Str)=some .local)
  (hm:m "self"=some (.ref x)) (hd:x≠dx) (ht:takerIn C.K C.EC name=some none) (hg:(getL name es).isSome=true) (hz:es.length≤900) (S:ES C az env.locals m x dx s nv es n)
  (k:∀ s' tk n',ES C az env.locals m x dx s' nv (putL name (PyData.keyHash C.w.params name) (.str name tk) .none es) n'→After s s'→Q .next s'):wpAny (model C.prog C.w) A (exec st env) Q E s:=by
 obtain ⟨p,ap,sp,q,n,rfl⟩:=h
 exact bZ7 K bR hk hl hm hd ht hg hz rfl (Constant_none ⟨nv,S,k⟩)
theorem bZ6 {st:Stmt} (h:aR3 name true st) (K:EntOk C fI) (bR:C.K.In az) (hk:env.scope.kind=.function) (hl:env.scope.names.lookup ("self":Str)=some .local)
  (hm:m "self"=some (.ref x)) (hd:x≠dx) (ht:takerIn C.K C.EC name=some none) (hg:(getL name es).isSome=true) (hz:es.length≤900) (S:ES C az env.locals m x dx s nv es n)
  (k:∀ l s' tk n',l≠x→ES C az env.locals m x dx s' ((l,aB2 [] 0)::nv) (putL name (PyData.keyHash C.w.params name) (.str name tk) (.ref l) es) n'→After s s'→Q .next s'):wpAny (model C.prog C.w) A (exec st env) Q E s:=by
 obtain ⟨p,ap,sp,q,_,rfl⟩:=h
 refine bZ7 (n:=n) K bR hk hl hm hd ht hg hz rfl (wpAny_List_spliced (spliced_nil ⟨by decide,?_⟩))
 have lt:=fun {p} hp=>Heap.lt_size (S.nw p (List.mem_append_right _ hp)).1
 exact ⟨_,⟨S.fr.push _,S.nw.push S.fr _,fun q hq=>(List.mem_cons.mp hq).elim (fun e=>e ▸ Nat.ne_of_gt (lt (.head _))) (S.ne q)⟩,fun s'' tk n' S' a=>k _ s'' tk n' (Nat.ne_of_gt (lt (.tail _ (.head _)))) S' ⟨a.toks,a.os,a.gens⟩⟩
theorem dE0 {s1 s2 s3 s4:Stmt} (h1:aR3 "useragents" true s1) (h2:aR3 "rulelines" true s2) (h3:aR3 "delay" false s3) (h4:aR3 "req_rate" false s4) (K:EntOk C fI) (bR:C.K.In az) (hk:env.scope.kind=.function) (hl:env.scope.names.lookup ("self":Str)=some .local)
  (hm:m "self"=some (.ref x)) (hd:x≠dx) (S:ES C az env.locals m x dx s [] [] 0)
  (k:∀ l l2 es n s',l≠x→ES C az env.locals m x dx s' [(l2,aB2 [] 0),(l,aB2 [] 0)] es n→getL "useragents" es=some (some (.ref l))→getL "applies_to" es=some none→After s s'→Q .next s'):wpAny (model C.prog C.w) A (execs [s1,s2,s3,s4] env) Q E s:=by
 have le1:∀ {name:Str} {h:Int} {key v:Value},(putL name h key v []).length≤1:=bM1 (k:=0) (Nat.le_refl 0)
 refine wpAny_execs_cons (bZ6 h1 K bR hk hl hm hd K.t1 rfl (by decide) S fun l t1 tk1 n1 hlx S1 a1=>?_)
 refine wpAny_execs_cons (bZ6 h2 K bR hk hl hm hd K.t2 (by rfl) (aA9 le1 (by decide)) S1 fun l2 t2 tk2 n2 _ S2 a2=>?_)
 refine wpAny_execs_cons (bQ2 h3 K bR hk hl hm hd K.t3 (by rfl) (aA9 (bM1 le1) (by decide)) S2 fun t3 tk3 n3 S3 a3=>?_)
 refine wpAny_execs_cons (bQ2 h4 K bR hk hl hm hd K.t4 (by rfl) (aA9 (bM1 (bM1 le1)) (by decide)) S3 fun t4 tk4 n4 S4 a4=>?_)
 exact wpAny_execs_nil (k l l2 _ n4 t4 hlx S4 rfl rfl (((a1.trans a2).trans a3).trans a4))
end
theorem eD7 (K:EntOk C fI):∀ (A:Around) (s:Shared),RoomL 0 A→SOk C s→0 < s.toks→∀ (Q E:Value→Shared→Prop),
  (∀ a dx m es n k s',Go C s s'→s.toks≤s'.toks→s.heap.get? a=none→s.heap.get? dx=none→s.heap.get? m=none→m≠a→m≠dx→s'.heap.get? a=some (instObj C.EC dx)→s'.heap.get? dx=some (dictOf es n) →
   getL "useragents" es=some (some (.ref m))→getL "applies_to" es=some Option.none→s'.heap.get? m=some (aB2 [] k)→Q (.ref a) s')→wpAny (model C.prog C.w) A (call (.ref C.EC) []) Q E s:=by
 intro A s R S htok Q E k
 refine hid fun Gz zz=>?_
 obtain ⟨o,fd,s1,s2,s3,s4,e1,e2,hb,hh,i1,i2,i3,i4⟩:=K.chk
 refine zz ?_;clear zz Gz
 simp only [bM9,Bool.and_eq_true,Bool.not_eq_true',beq_iff_eq,decide_eq_true_eq] at hh
 have h3:=hh.1.1.1.1.1.1.2
 have keep2:∀ b o,s.heap.get? b=some o→((s.heap.push emptyDict).push (instObj C.EC s.heap.objs.size)).get? b=some o:=fun b o e=>Heap.get?_push_of_some _ (Heap.get?_push_of_some _ e)
 have gB:Go C s { s with heap:=(s.heap.push emptyDict).push (instObj C.EC s.heap.objs.size) }:=.keep keep2
 have SB:=S.go gB
 have size2:((s.heap.push emptyDict).push (instObj C.EC s.heap.objs.size)).objs.size=s.heap.objs.size+2:=by rw [Heap.size_push,Heap.size_push]
 refine wpAny_call (make_core (h:=s.heap) (makes_of S.top.kin K.makes) (looks_findIn S.top.kin K.init) (fun self=>bind_fn S.top.kin self K.fn) (.inl rfl) ?_)
 have hroom:(A.under (.builtin "type.__call__" ⟨.ref C.EC::[],[]⟩)).depth < recursionLimit:=by
  have hw:(Code.builtin "type.__call__" ⟨.ref C.EC::[],[]⟩).weight≤1:=by first | exact Nat.le_of_eq (by kernel_rfl) | (show 0≤1;lia) | (show 1≤1;lia)
  have:=R.depth
  show A.depth+_ < _
  exact aL3 (cA8 hw) (cO9 this rfl)
 refine codeAny_call_function hroom (SB.top.kin fI _ e1) e2 hh.1.2 hh.2 hb (codeRec_of SB.top.kin hh.1.1.2) ?_
 rw [(bG7 e1 e2 _).symm.trans (K.binds [.ref (s.heap.objs.size+1)] rfl),List.isEmpty_iff.mp hh.1.1.1.1.1.2,hh.1.1.1.1.2,hh.1.1.1.2]
 have hlk:fd.scope.names.lookup ("self":Str)=some .local:=by rw [h3];decide
 refine wpAny_pure (cS6 (C:=C) (Mu:=noMu) (s:={ s with heap:=(s.heap.push emptyDict).push (instObj C.EC s.heap.objs.size) }) (binds:=[(("self":Str),Value.ref (s.heap.objs.size+1))]) hh.1.1.1.1.1.1.1 (by rw [h3];decide) (fun x k' m=>by rw [h3] at m;simp at m;exact .inl m.2) (.noMu _ _) (let ⟨o,e,_⟩:=C.tabNone _ SB.tab;⟨o,e⟩) (fun p hp=>by rw [List.mem_singleton.mp hp];exact .inl hlk) (by simp) fun env Mv h' tk hs eo hef F MM hv can hsub hnew hL hcn keep ⟨ht,_⟩=>?_)
 have S':=SB.go (.keep (s:={ s with heap:=(s.heap.push emptyDict).push (instObj C.EC s.heap.objs.size) }) (h':=h') (d:=s.drawn) (tk:=tk) keep)
 refine ⟨S'.top.nolimit,codeAny_func ?_⟩
 rcases hv ("self",.ref (s.heap.objs.size+1)) (.head _) with ⟨kl,m,hn,hm⟩ | ⟨kl,_⟩
 rotate_left
 ·dsimp only [Env.kindOf] at kl
  rw [hs,hlk] at kl
  rcases kl with kl | kl<;>cases kl
 have hLs:env.locals=s.heap.objs.size+2:=hef.2.2.trans size2
 have hkind:env.scope.kind=.function:=by rw [hs];exact hh.1.1.1.1.1.1.1
 have hlk':env.scope.names.lookup ("self":Str)=some .local:=by rw [hs];exact hlk
 have F0:Fr s.heap env.locals h' m:=⟨hn,fun b o e=>keep b o (keep2 b o e),by rw [hLs];exact dV3⟩
 have none_:∀ a,s.heap.objs.size≤a→s.heap.get? a=none:=fun a ha=>by
  cases e:s.heap.get? a with
  | none=>rfl
  | some o'=>exact absurd (Heap.lt_size e) (Nat.not_lt.mpr ha)
 have gx:h'.get? (s.heap.objs.size+1)=some (instObj C.EC s.heap.objs.size):=keep _ _ (by
  have:=Heap.get?_push_size (s.heap.push emptyDict) (o:=instObj C.EC s.heap.objs.size) rfl
  rwa [Heap.size_push] at this)
 have gd:h'.get? s.heap.objs.size=some (dictOf [] 0):=keep _ _ (Heap.get?_push_of_some _ (Heap.get?_push_size _ rfl))
 have N0:News s.heap env.locals h' ([]++(s.heap.objs.size,dictOf [] 0)::[(s.heap.objs.size+1,instObj C.EC s.heap.objs.size)]):=fun p hp=>by
  simp only [List.nil_append,List.mem_cons,List.not_mem_nil,or_false] at hp
  rcases hp with rfl | rfl
  ·exact ⟨gd,by rw [hLs];show s.heap.objs.size≠_;exact dO9 (dJ5 dV3),none_ _ (Nat.le_refl _)⟩
  ·exact ⟨gx,by rw [hLs];show s.heap.objs.size+1≠_;exact dO9 (dJ5 (cA8 (cl rfl))),none_ _ (Nat.le_succ _)⟩
 refine dE0 (dx:=s.heap.objs.size) i1 i2 i3 i4 K S.top.kin hkind hlk' hm (Nat.succ_ne_self _) ⟨F0,N0,fun _ h=>nomatch h⟩ fun l l2 es n s4 hlx S4 hu hap a=>⟨rfl,?_⟩
 obtain ⟨f1,f2,f3⟩:=S4.nw (l,aB2 [] 0) (.tail _ (.head _))
 have f4:=S4.nw _ (List.mem_append_right _ (List.mem_cons_self ..))
 have f5:=S4.nw (s.heap.objs.size+1,instObj C.EC s.heap.objs.size) (List.mem_append_right _ (.tail _ (.head _)))
 exact k _ _ l _ _ _ s4 ⟨fun b o e _=>S4.fr.keep b o e,C.tabMono _ _ fun b o e _=>S4.fr.keep b o e,a.os,fun B=>by rw [a.gens];exact B⟩ (aA9 ht a.toks) (none_ _ (Nat.le_succ _)) (none_ _ (Nat.le_refl _)) f3 hlx (S4.ne (l,aB2 [] 0) (.tail _ (.head _))) f5.1 f4.1 hu hap f1
end
end Mine
end
section
open PySem PySem.W PyProof.Rows PySem.Calls PySem.Spec
open Sem (wp)
open Heap (SlotsOnly)
set_option autoImplicit false
set_option maxRecDepth 100000
namespace Mine
noncomputable abbrev KK (P:Params):Frag:=hd.heap_1 P
theorem eV5 (P:Params):plainGet (KK P) 76 "useragents"=true∧hasDictIn (KK P) 76=true∧findIn (KK P) (.ref 76) "useragents"=some .none:=⟨by kernel_rfl,by kernel_rfl,by kernel_rfl⟩
theorem eL6 (P:Params):∃ src fl c sl,(KK P).lookup 85=some ⟨.type "re.Pattern",Option.none,.fields #[src,fl,rawInt 1,.none,.none,.ref c,rawInt 0],sl⟩∧(KK P).lookup c=some (aU9 patCode 0) :=
 ⟨.str "([0-9]+|[._+-])" 352,.int 32 396,84,#[],by kernel_rfl,by kernel_rfl⟩
noncomputable def verList:List (Str × Int × Nat × Nat):=[("dev",10,398,399),("alpha",20,400,401),("a",20,402,403),("beta",30,404,405),("b",30,406,407),("c",40,408,409),("RC",50,410,411),("rc",50,412,413),("pl",200,414,415),("p",200,416,417)]
noncomputable def bZ2 (w:World) (q:Str × Int × Nat × Nat):DictEntry:=⟨hashStr w q.1,.str q.1 q.2.2.1,.int q.2.1 q.2.2.2⟩
noncomputable def bV3 (q:Str × Int × Nat × Nat):Key × Value:=(.inr q.1,.int q.2.1 q.2.2.2)
theorem bP3 (prog:Program) (w:World):∀ l:List (Str × Int × Nat × Nat),Pairs (aC0 prog w) (l.map (bZ2 w)) (l.map bV3)
 | []=>.nil
 | q::l=>.cons (by show Value.isStrOf q.1 (.str q.1 q.2.2.1)=true;simp [Value.isStrOf]) rfl (bP3 prog w l)
theorem bZ1:∀ l:List (Str × Int × Nat × Nat),IntVals (l.map bV3) (l.map fun q=>(.inr q.1,q.2.1))
 | []=>.nil
 | q::l=>.cons (bZ1 l)
theorem eL5 (w:World):∃ o ps,(KK w.params).lookup 86=some o∧o.IsDictOf (aC0 (Challenge.rw_jc0018_01).row.prog w) ps∧IntVals ps verKV∧((86:Addr) == sysModules)=false:=by
 refine ⟨⟨.type "dict",none,.dict (verList.map (bZ2 w)).toArray 10,#[]⟩,verList.map bV3,by kernel_rfl,⟨_,_,?_,rfl,?_,?_,?_⟩,bZ1 verList,by decide⟩
 ·exact ⟨rfl,rfl,rfl⟩
 ·intro e he
  have he':e∈verList.map (bZ2 w):=by simpa using he
  obtain ⟨q,_,rfl⟩:=List.mem_map.mp he'
  exact ⟨.inr q.1,by show Value.isStrOf q.1 (.str q.1 q.2.2.1)=true;simp [Value.isStrOf],rfl⟩
 ·show Pairs _ (verList.map (bZ2 w)).toArray.toList _
  rw [List.toList_toArray]
  exact bP3 _ w verList
 ·rw [List.map_map]
  show (verList.map fun q=>(Sum.inr q.1:Key)).Nodup
  decide +kernel
noncomputable def dR3:Value→Bool
 | .none=>true
 | _=>false
noncomputable def dF4:Obj→Bool
 | ⟨_,_,.dict _ _,_⟩=>true
 | _=>false
theorem eB7 (P:Params):(KK P).all (fun p=>!(dR3 p.2.cls) || dF4 p.2)=true:=by kernel_rfl
structure TopX (w:World) (mg:Str→Option Value) (h:Heap) (PT:Addr):Prop where
 kin:(KK w.params).In h
 g:h.Ns mainGlobals mg
 b:∃ mb,h.Ns builtinsNs mb∧∀ x:Str,x≠"__name__"→mb x=bootBuiltins x
 nolimit:h.NoLimit
 bm:∃ bm ob,mg "__builtins__"=some (.ref bm)∧bm≠builtinsNs∧h.get? bm=some ob∧ob.cls=.type "module"∧ob.dict=some builtinsNs∧ob.data=.plain
 code:h.IsCode 99 PT #[]
 table:h.TableAt 99 PT #[]
section
variable {w:World} {mg:Str→Option Value} {h:Heap} {PT:Addr}
theorem TopX.pt (X:TopX w mg h PT):h.get? PT=some { cls:=.none,data:=.fields #[] }:=X.table.2
theorem TopX.offNs (X:TopX w mg h PT) {a:Addr} {m:Str→Option Value} (n:h.Ns a m):PT≠a:=fun z=>by
 obtain ⟨o,es,ep,ho,hd,_⟩:=n
 rw [← z,X.pt] at ho;obtain rfl:=Option.some.inj ho;cases hd
theorem TopX.nm (X:TopX w mg h PT) {x:Str} {v:Value} (e:nsIn (KK w.params) mainGlobals x=some (some v)):mg x=some v:=mg_of X.kin X.g e
noncomputable def aI1 (X:TopX w mg h PT):Cfg where
 prog:=(Challenge.rw_jc0018_01).row.prog
 w:=w
 mg:=mg
 PT:=PT
 K:=KK w.params
 tab:=fun h=>∃ ps,h.IsCode 99 PT ps∧h.TableAt 99 PT ps
 tabMono:=fun h h' k ⟨ps,a,b⟩=>by
  obtain ⟨⟨o,vs,a1,a2,a3,a4⟩,b1⟩:=b
  have q1:=k _ _ a1 (.inl a2)
  have q2:=k _ _ b1 (.inr rfl)
  exact ⟨ps,a.at2 (fun o' e=>Option.some.inj (a1.symm.trans e) ▸ q1) (fun o' e=>Option.some.inj (b1.symm.trans e) ▸ q2),⟨o,vs,q1,a2,a3,a4⟩,q2⟩
 tabNone:=fun h ⟨ps,_,b⟩=>⟨_,b.2,rfl⟩
 EC:=76
 PA:=85
 VA:=86
 ptg:=X.offNs X.g
 ptb:=let ⟨_,a,_⟩:=X.b;X.offNs a
 pts:=let ⟨_,a,_⟩:=X.nolimit;X.offNs a
 Kcls:=fun a o q=>by
  by_cases z:o.cls=.none
  ·right
   intro e
   have k:=X.kin a o q
   rw [e,X.pt] at k;obtain rfl:=Option.some.inj k
   have hm:(a,_)∈KK w.params:=mem_of_lookupK q
   have:=List.all_eq_true.mp (eB7 w.params) _ hm
   exact noB this
  ·exact .inl z
 patN:=X.nm (by kernel_rfl)
 pat:=eL6 w.params
 verN:=X.nm (by kernel_rfl)
 ver:=eL5 w
 ua:=eV5 w.params
theorem cP4 (X:TopX w mg h PT):PlatCode (aI1 X) 99:=⟨fun _=>Iff.rfl⟩
theorem eD8 (X:TopX w mg h PT):EntOk (aI1 X) 52 where
 makes:=by show makesIn (KK w.params) 76=true;kernel_rfl
 init:=by show findIn (KK w.params) (.ref 76) "__init__"=_;kernel_rfl
 fn:=by show typeIn (KK w.params) (.ref 52)=_;kernel_rfl
 chk:=Chk.of (dR6 (KK w.params) 52) (by kernel_rfl)
 binds:=bB2 fun a=>by show bB3 (KK w.params) 52 [a]=_;kernel_rfl
 set:=by show findIn (KK w.params) (.ref 76) "__setattr__"=_;kernel_rfl
 plain:=by show plainOver (KK w.params) 76=true;kernel_rfl
 t1:=by show takerIn (KK w.params) 76 "useragents"=_;kernel_rfl
 t2:=by show takerIn (KK w.params) 76 "rulelines"=_;kernel_rfl
 t3:=by show takerIn (KK w.params) 76 "delay"=_;kernel_rfl
 t4:=by show takerIn (KK w.params) 76 "req_rate"=_;kernel_rfl
 has:=by show hasDictIn (KK w.params) 76=true;kernel_rfl
theorem aF1 (X:TopX w mg h PT):Kit (aI1 X) where
 tup:=by show kitOne (KK w.params) (.type "int") (.type "tuple")=_;kernel_rfl
 entN:=⟨X.nm (by kernel_rfl),by show keepIn (KK w.params) (.ref 76)=true;kernel_rfl⟩
 ent:=eD7 (eD8 X)
theorem dN0 (X:TopX w mg h PT) {s:Shared} (hs:s.heap=h) (hg:s.gens=#[]):SOk (aI1 X) s where
 top:=by
  subst hs
  exact ⟨X.g,X.b,X.nolimit,X.kin,X.bm⟩
 tab:=by subst hs;exact ⟨#[],X.code,X.table⟩
 bare:=.of_eq hg
theorem cZ2 (X:TopX w mg h PT):∀ x∈aL7,mg x=none:=by
 intro x hx
 simp only [aL7,List.mem_cons,List.not_mem_nil,or_false] at hx
 rcases hx with rfl | rfl | rfl | rfl | rfl | rfl | rfl | rfl | rfl | rfl | rfl<;>exact mg_none_of X.kin X.g (by kernel_rfl)
noncomputable def FnOk (C:Cfg) (lev:Nat) (f:Fn):Prop:=∃ a,(f.name≠("applies_to":Str)→C.mg f.name=some (.ref a)) ∧
  (f.name=("applies_to":Str)→findIn C.K (.ref C.EC) "applies_to"=some (some (.ref a))∧isFn C.K (.ref a)=true∧plainGet C.K C.EC "applies_to"=true)∧keepIn C.K (.ref a)=true∧CallOk C lev a f.g
theorem FnOk.lift {C:Cfg} {lev:Nat} {f:Fn} (h:FnOk C lev f):FnOk C (lev+1) f:=let ⟨a,b,c,d,e⟩:=h;⟨a,b,c,d,e.lift⟩
theorem bF7 (X:TopX w mg h PT) {lev:Nat} {Γ:List Fn} (hf:∀ f∈Γ,FnOk (aI1 X) lev f):FnsOk (aI1 X) lev Γ:=⟨fun k f e=>hf f (List.mem_of_getElem? e),cZ2 X⟩
theorem aF0 (X:TopX w mg h PT) {lev:Nat} {x:Str} {a:Addr} {g:List D→Option D} (e:nsIn (KK w.params) mainGlobals x=some (some (.ref a))) (hk:keepIn (KK w.params) (.ref a)=true) (hne:x≠"applies_to") (hc:CallOk (aI1 X) lev a g):FnOk (aI1 X) lev ⟨x,g⟩ :=
 ⟨a,fun _=>X.nm e,fun z=>absurd z hne,hk,hc⟩
end
end Mine
end
section
open PySem PySem.W PyProof.Rows PySem.Calls PySem.Spec
open Sem (wp)
open Heap (SlotsOnly)
set_option autoImplicit false
set_option maxRecDepth 100000
namespace Mine
theorem CallOkN.lift {C:Cfg} {lev:Nat} {f:Addr} {g:List D→Option D} (h:CallOkN C lev f g):CallOkN C (lev+1) f g:=fun A fr Mu s vs ds d R=>h A fr Mu s vs ds d ⟨R.handled,by have:=R.depth;exact eO5 this,by have:=R.units;exact eO0 this⟩
section
variable {w:World} {mg:Str→Option Value} {h:Heap} {PT:Addr}
theorem cB4 (X:TopX w mg h PT) (lev:Nat):FnsOk (aI1 X) lev []:=bF7 X fun _ h=>(List.not_mem_nil h).elim
theorem eD1 (X:TopX w mg h PT) (lev:Nat):FnsN (aI1 X) lev []:=⟨fun k f e=>by simp at e⟩
theorem dC3 (X:TopX w mg h PT):CallOk (aI1 X) 1 128 aT0:=aH4 (C:=aI1 X) (ns:=cH5) (params:=ps_l_cells) (is:=aU4) (cB4 X 0) (aF1 X) (bB2 fun a=>by kernel_rfl) (by kernel_rfl)
theorem dB7 (X:TopX w mg h PT):CallOk (aI1 X) 1 135 aS5:=aH4 (C:=aI1 X) (ns:=cH0) (params:=ps_l_signs) (is:=aT9) (cB4 X 0) (aF1 X) (bB1 fun a b=>by kernel_rfl) (by kernel_rfl)
theorem dC0 (X:TopX w mg h PT):CallOk (aI1 X) 1 140 aS8:=aH4 (C:=aI1 X) (ns:=cH3) (params:=ps_l_marks) (is:=aU2) (cB4 X 0) (aF1 X) (bB1 fun a b=>by kernel_rfl) (by kernel_rfl)
theorem bJ6 (X:TopX w mg h PT):CallOk (aI1 X) 1 147 aJ9:=aH4 (C:=aI1 X) (ns:=bR6) (params:=ps_l_reading) (is:=bA6) (cB4 X 0) (aF1 X) (bB2 fun a=>by kernel_rfl) (by kernel_rfl)
theorem eA1 (X:TopX w mg h PT):CallOk (aI1 X) 1 157 aI8:=aH4 (C:=aI1 X) (ns:=bH8) (params:=ps_l_due_names) (is:=aK2) (cB4 X 0) (aF1 X) (bB2 fun a=>by kernel_rfl) (by kernel_rfl)
theorem dC1 (X:TopX w mg h PT):CallOk (aI1 X) 1 171 aS9:=aH4 (C:=aI1 X) (ns:=cH4) (params:=ps_l_drawn) (is:=aU3) (cB4 X 0) (aF1 X) (bB1 fun a b=>by kernel_rfl) (by kernel_rfl)
theorem dQ3 (X:TopX w mg h PT):CallOk (aI1 X) 1 183 bN1:=aH4 (C:=aI1 X) (ns:=cQ3) (params:=ps_l_left) (is:=aX8) (cB4 X 0) (aF1 X) (bB2 fun a=>by kernel_rfl) (by kernel_rfl)
theorem cQ2 (X:TopX w mg h PT):CallOk (aI1 X) 1 202 aO6:=aH4 (C:=aI1 X) (ns:=bW8) (params:=ps_l_octets) (is:=aQ1) (cB4 X 0) (aF1 X) (cD0 fun a b c=>by kernel_rfl) (by kernel_rfl)
theorem cG8 (X:TopX w mg h PT):CallOk (aI1 X) 1 66 aG4:=aH4 (C:=aI1 X) (ns:=bM6) (params:=ps_applies_to) (is:=aG8) (cB4 X 0) (aF1 X) (bB1 fun a b=>by kernel_rfl) (by kernel_rfl)
theorem eA2 (X:TopX w mg h PT):CallOk (aI1 X) 1 107 aQ4:=aH4 (C:=aI1 X) (ns:=bI0) (params:=ps_add_callers) (is:=aK4) (cB4 X 0) (aF1 X) (bB1 fun a b=>by kernel_rfl) (by kernel_rfl)
theorem dC2 (X:TopX w mg h PT):CallOk (aI1 X) 1 114 aI9:=aH4 (C:=aI1 X) (ns:=bH9) (params:=ps_count_calls) (is:=aK3) (cB4 X 0) (aF1 X) (bB2 fun a=>by kernel_rfl) (by kernel_rfl)
theorem dQ2 (X:TopX w mg h PT):CallOk (aI1 X) 1 100 aG0:=dP7 (C:=aI1 X) (cB4 X 0) (aF1 X) (cP4 X) (fun vs=>by cases vs<;>kernel_rfl) (Chk.of (dP9 (aI1 X) 0 100 99 bW7 aQ0) (by kernel_rfl))
theorem dQ1 (X:TopX w mg h PT):CallOkN (aI1 X) 1 121 aO7:=bN6 (C:=aI1 X) (ns:=bW9) (params:=ps_byteswap) (is:=aQ2) (cB4 X 0) (eD1 X 0) (aF1 X) (bB1 fun a b=>by kernel_rfl) (by kernel_rfl)
theorem cG6 (X:TopX w mg h PT):CallOkN (aI1 X) 1 93 aE9:=bN6 (C:=aI1 X) (ns:=aS1) (params:=ps_comparable_version) (is:=aE4) (cB4 X 0) (eD1 X 0) (aF1 X) (bB2 fun a=>by kernel_rfl) (by kernel_rfl)
theorem cB5 (X:TopX w mg h PT):FnOk (aI1 X) 1 ⟨"_platform",aG0⟩:=aF0 X (by kernel_rfl) (by kernel_rfl) (by decide) (dQ2 X)
theorem eD2 (X:TopX w mg h PT):FnOk (aI1 X) 1 ⟨"applies_to",aG4⟩ :=
 ⟨66,fun z=>absurd rfl z,fun _=>⟨by show findIn (KK w.params) (.ref 76) "applies_to"=_;kernel_rfl,by show isFn (KK w.params) (.ref 66)=true;kernel_rfl,by show plainGet (KK w.params) 76 "applies_to"=true;kernel_rfl⟩,by show keepIn (KK w.params) (.ref 66)=true;kernel_rfl,cG8 X⟩
theorem dB9 (X:TopX w mg h PT):CallOk (aI1 X) 2 152 aS7:=aH4 (C:=aI1 X) (ns:=cH2) (params:=ps_l_names) (is:=aU1) (Γ:=aH) (bF7 X fun f hf=>by rw [List.mem_singleton.mp hf];exact cB5 X) (aF1 X) (bB1 fun a b=>by kernel_rfl) (by kernel_rfl)
theorem dZ9 (X:TopX w mg h PT):CallOk (aI1 X) 2 164 aI7:=aH4 (C:=aI1 X) (ns:=bH7) (params:=ps_l_one_field) (is:=aK1) (Γ:=aC) (bF7 X fun f hf=>by rw [List.mem_singleton.mp hf];exact cB5 X) (aF1 X) (bB1 fun a b=>by kernel_rfl) (by kernel_rfl)
theorem cG7 (X:TopX w mg h PT):CallOk (aI1 X) 2 176 aW0:=aH4 (C:=aI1 X) (ns:=bR7) (params:=ps_l_reached) (is:=aN1) (Γ:=ak) (bF7 X fun f hf=>by rw [List.mem_singleton.mp hf];exact eD2 X) (aF1 X) (cD0 fun a b c=>by kernel_rfl) (by kernel_rfl)
theorem dB8 (X:TopX w mg h PT):CallOk (aI1 X) 3 190 aS6:=aH4 (C:=aI1 X) (ns:=cH1) (params:=ps_l_pages) (is:=aU0) (Γ:=aS) (bF7 X fun f hf=>by
  simp only [aS,List.mem_cons,List.not_mem_nil,or_false] at hf
  rcases hf with rfl | rfl
  ·exact aF0 X (by kernel_rfl) (by kernel_rfl) (by decide) (cG7 X)
  ·exact aF0 X (by kernel_rfl) (by kernel_rfl) (by decide) (dQ3 X).lift) (aF1 X) (cD0 fun a b c=>by kernel_rfl) (by kernel_rfl)
noncomputable def cS1:Option Obj→Bool
 | some ⟨_,_,.func _,_⟩=>true
 | _=>false
theorem dS3 {o:Option Obj} (h:cS1 o=true):∃ ob fd,o=some ob∧ob.data=.func fd:=by
 cases o with
 | none=>exact Bool.noConfusion h
 | some o =>
  obtain ⟨_,_,d,_⟩:=o
  cases d with
  | func fd=>exact ⟨_,_,rfl,rfl⟩
  | _=>exact Bool.noConfusion h
theorem eN0 (X:TopX w mg h PT) {lev:Nat} {x:Str} {a:Addr} {g:List D→Option D} (e:nsIn (KK w.params) mainGlobals x=some (some (.ref a))) (hk:cS1 ((KK w.params).lookup a)=true) (hc:CallOkN (aI1 X) lev a g) :
  ∃ a o fd,(aI1 X).mg x=some (.ref a)∧(aI1 X).K.lookup a=some o∧o.data=.func fd∧CallOkN (aI1 X) lev a g:=by
 obtain ⟨o,fd,h1,h2⟩:=dS3 hk
 exact ⟨a,o,fd,X.nm e,h1,h2,hc⟩
theorem dQ4 (X:TopX w mg h PT):CallOkN (aI1 X) 2 197 aY1:=bN6 (C:=aI1 X) (ns:=cQ4) (params:=ps_l_book) (is:=aX9) (Γ:=an) (ΓN:=aw) (bF7 X fun f hf=>by
  simp only [an,List.mem_cons,List.not_mem_nil,or_false] at hf
  rcases hf with rfl | rfl
  ·exact aF0 X (by kernel_rfl) (by kernel_rfl) (by decide) (bJ6 X)
  ·exact aF0 X (by kernel_rfl) (by kernel_rfl) (by decide) (eA2 X)) ⟨fun k f hf=>by
   have:=List.mem_of_getElem? hf
   rw [List.mem_singleton.mp this]
   exact eN0 X (by kernel_rfl) (by kernel_rfl) (cG6 X)⟩ (aF1 X) (cD0 fun a b c=>by kernel_rfl) (by kernel_rfl)
theorem eA0 (X:TopX w mg h PT):CallOkN (aI1 X) 4 207 bF4:=bN6 (C:=aI1 X) (ns:=cG9) (params:=ps_lawMain) (is:=aT8) (Γ:=ab) (ΓN:=aK) (bF7 X fun f hf=>by
  simp only [ab,List.mem_cons,List.not_mem_nil,or_false] at hf
  rcases hf with rfl | rfl | rfl | rfl | rfl | rfl | rfl | rfl | rfl | rfl | rfl
  ·exact aF0 X (by kernel_rfl) (by kernel_rfl) (by decide) (dC3 X).lift.lift
  ·exact aF0 X (by kernel_rfl) (by kernel_rfl) (by decide) (dB7 X).lift.lift
  ·exact aF0 X (by kernel_rfl) (by kernel_rfl) (by decide) (dC0 X).lift.lift
  ·exact aF0 X (by kernel_rfl) (by kernel_rfl) (by decide) (dB9 X).lift
  ·exact aF0 X (by kernel_rfl) (by kernel_rfl) (by decide) (eA1 X).lift.lift
  ·exact aF0 X (by kernel_rfl) (by kernel_rfl) (by decide) (dZ9 X).lift
  ·exact aF0 X (by kernel_rfl) (by kernel_rfl) (by decide) (dC1 X).lift.lift
  ·exact aF0 X (by kernel_rfl) (by kernel_rfl) (by decide) (dB8 X)
  ·exact aF0 X (by kernel_rfl) (by kernel_rfl) (by decide) (bJ6 X).lift.lift
  ·exact aF0 X (by kernel_rfl) (by kernel_rfl) (by decide) (dC2 X).lift.lift
  ·exact aF0 X (by kernel_rfl) (by kernel_rfl) (by decide) (cQ2 X).lift.lift) ⟨fun k f hf=>by
   have:=List.mem_of_getElem? hf
   simp only [aK,List.mem_cons,List.not_mem_nil,or_false] at this
   rcases this with rfl | rfl
   ·exact eN0 X (by kernel_rfl) (by kernel_rfl) (dQ4 X).lift
   ·exact eN0 X (by kernel_rfl) (by kernel_rfl) (dQ1 X).lift.lift⟩ (aF1 X) (bB2 fun a=>by kernel_rfl) (by kernel_rfl)
theorem dR5 {C:Cfg} {G:aU7} {vs:List Value} {ns:List Int} (r:IntsAre vs ns):RdL C G vs (ns.map .int):=by
 induction r with
 | nil=>exact .nil
 | cons n t r ih=>exact .cons (.int n t) ih
theorem eH3 (X:TopX w mg h PT) (plain:∀ ns:List Int,ns.length≤63→bF4 [.lst (ns.map .int)]=some (.bool true)) {s:Shared} {l:Addr} {vs:List Value} {ns:List Int} {n:Nat} (hs:s.heap=h) (hg:s.gens=#[])
  (hl:s.heap.get? l=some (aB2 vs n)) (hi:IntsAre vs ns) (hn:ns.length≤63) {Q E:Value→Shared→Prop} (k:∀ s' ps,Ext PT s.heap s'.heap→s'.heap.TableAt 99 PT ps→s'.os=s.os→AllBare s'.gens→Q (.bool true) s') :
  wpN (model (Challenge.rw_jc0018_01).row.prog w) callerA (call (.ref 207) [.ref l]) Q E s:=by
 have S:=dN0 X hs hg
 refine aT4 (eA0 X callerA [] noMu s [.ref l] [.lst (ns.map .int)] (.bool true) ⟨rfl,by decide,by decide⟩ rfl (fun e he=>(List.not_mem_nil he).elim) S (.noMu _ _) (.one (.lst (by rw [aO2];exact hl) (dR5 hi))) (plain ns hn) _ fun v az s' x g t r=>?_)
 obtain ⟨_,rfl⟩:=r.inv
 have tb:(aI1 X).tab az:=(aI1 X).tabMono _ _ (fun b o q _=>by rw [x.2.1 b (fun m=>nomatch m)];exact q) S.tab
 obtain ⟨ps,_,hta⟩:=g.tab tb
 refine k s' ps (fun b o q c=>?_) hta g.os (g.gens S.bare)
 refine g.ext b o ?_ c
 show az.get? b=some o
 rw [x.2.1 b (fun m=>nomatch m)]
 exact q
end
end Mine
end
section
open PySem PySem.W PyProof.Rows PySem.Calls PySem.Spec
set_option autoImplicit false
set_option maxRecDepth 100000
namespace Mine
theorem dT7 (ρ:Ro) (i:Nat):(aP4 ρ).lookup i=if dD8 (ρ.lookup i)=true then ρ.lookup i else none:=by
 unfold aP4
 rw [aP8 (fun k=>dD8 (ρ.lookup k))]
theorem lkT {ρ ao:Ro} {j:Nat} {o:Option LV} (h:ρ=ao) (e:ρ.lookup j=o):ao.lookup j=o:=h ▸ e
theorem aC6 {ρ:Ro} {i:Nat} {d:D} (h:ρ.lookup i=some (.dat d)):(aP4 ρ).lookup i=some (.dat d):=by rw [dT7,h];rfl
theorem aA1 {Γ:List Fn} {i:Nat} {tr:Bool} {ρ:Ro} {d:D} (h:ρ.lookup i=some (.dat d)):ev Γ (.var i) tr ρ=some d:=by (dsimp only [ev];simp [h])
theorem bF8 {Γ:List Fn} {i:Nat} {ρ:Ro} {d:D} (h:ρ.lookup i=some (.own d)):ev Γ (.var i) true ρ=some d:=by (dsimp only [ev];simp [h])
theorem aE3 {i:Nat} {ρ:Ro} {d:D} (h:ρ.lookup i=some (.own d)):bV0 ρ i=some d:=by simp [bV0,h]
theorem aO8 {f:D→Ro→Option Out} (I:Nat→Ro→Prop):∀ (ds:List D) (k:Nat) (ρ:Ro),I k ρ→(∀ j (hj:j < ds.length) ρ,I (k+j) ρ→∃ ao,f ds[j] ρ=some (.next ao)∧I (k+j+1) ao)→∃ ao,aH0 f ds ρ=some (.next ao)∧I (k+ds.length) ao
 | [],k,ρ,h,_=>⟨ρ,rfl,h⟩
 | d::ds,k,ρ,h,st=>by
  obtain ⟨ae,e,av⟩:=st 0 (by simp) ρ h
  obtain ⟨aq,bn,aL⟩:=aO8 I ds (k+1) ae av fun j hj ρ hI=>by
   have:=st (j+1) (by simpa using hj) ρ (by rw [show k+(j+1)=k+1+j by lia];exact hI)
   rw [show k+(j+1)+1=k+1+j+1 by lia] at this
   exact this
  refine ⟨aq,?_,by rw [List.length_cons,show k+(ds.length+1)=k+1+ds.length by lia];exact aL⟩
  (dsimp only [aH0])
  have e':f d ρ=some (.next ae):=e
  rw [e']
  exact bn
theorem cI3 {f:D→Ro→Option Out} {σ:Type} (I:σ→Ro→Prop) (g:σ→D→σ):∀ (ds:List D) (x:σ) (ρ:Ro),I x ρ→(∀ d∈ds,∀ x ρ,I x ρ→∃ ao,f d ρ=some (.next ao)∧I (g x d) ao)→∃ ao,aH0 f ds ρ=some (.next ao)∧I (ds.foldl g x) ao
 | [],x,ρ,h,_=>⟨ρ,rfl,h⟩
 | d::ds,x,ρ,h,st=>by
  obtain ⟨ae,e,av⟩:=st d (.head _) x ρ h
  obtain ⟨aq,bn,aL⟩:=cI3 I g ds (g x d) ae av fun d hd=>st d (.tail _ hd)
  refine ⟨aq,?_,aL⟩
  (dsimp only [aH0];rw [e])
  exact bn
theorem cA3 (a b:Int) (h1:0≤a) (h2:a≤2000) (h3:-1000≤b) (h4:b≤2000):cA4 a b 1=some ((List.range (b - a).toNat).map fun i:Nat=>D.int (a+(i:Int))):=by
 unfold cA4
 have e:(Builtin.Range.rangeSize a b 1).toNat=(b - a).toNat:=by
  unfold Builtin.Range.rangeSize
  simp only [gt_iff_lt]
  split
  ·split<;>lia
  ·lia
 have hr:0≤Builtin.Range.rangeSize a b 1∧Builtin.Range.rangeSize a b 1≤4000:=by
  unfold Builtin.Range.rangeSize
  simp only [gt_iff_lt]
  split
  ·split<;>lia
  ·lia
 have hs:Builtin.Range.small a b 1=true:=by
  unfold Builtin.Range.small
  have e1:Builtin.Range.rangeFitsLong a=true:=by simp only [Builtin.Range.rangeFitsLong,Bool.and_eq_true,decide_eq_true_eq];exact aV7 (cI2 (bA0 rfl) h1) (bB8 h2 (by decide))
  have e2:Builtin.Range.rangeFitsLong b=true:=by simp only [Builtin.Range.rangeFitsLong,Bool.and_eq_true,decide_eq_true_eq];lia
  have e3:Builtin.Range.rangeFitsLong 1=true:=by decide
  have e4:Builtin.Range.rangeFitsLong (Builtin.Range.rangeSize a b 1)=true:=by simp only [Builtin.Range.rangeFitsLong,Bool.and_eq_true,decide_eq_true_eq];exact aV7 (cI2 (bA0 rfl) hr.1) (bB8 hr.2 (by decide))
  have e5:Builtin.Range.rangeFitsLong (b+(1 - 1))=true:=by simp only [Builtin.Range.rangeFitsLong,Bool.and_eq_true,decide_eq_true_eq];lia
  rw [e1,e2,e3,e4,if_pos (by decide),e5,Bool.or_true]
  rfl
 rw [if_pos ⟨(by decide),by lia,bB8 h2 (by decide),bB8 h4 (by decide),by lia,(by decide),hs⟩,e]
 refine congrArg some (List.map_congr_left fun i _=>?_)
 rw [Int.mul_one]
theorem dO1 {Γ:List Fn} {a:IE} {ρ:Ro} {b:Int} (h:ev Γ a true ρ=some (.int b)):bI2 Γ (.rng1 a) ρ=cA4 0 b 1:=by (dsimp only [bI2];rw [h,aC1])
theorem dO0 {Γ:List Fn} {a c:IE} {ρ:Ro} {b d:Int} (h:ev Γ a true ρ=some (.int b)) (h':ev Γ c true ρ=some (.int d)):bI2 Γ (.rng2 a c) ρ=cA4 b d 1:=by (dsimp only [bI2];rw [h,h',aC1,aC1])
theorem bV9 {Γ:List Fn} {a:IE} {ρ:Ro} {n:Nat} (h:ev Γ a true ρ=some (.int n)) (hn:n≤1000):bI2 Γ (.rng1 a) ρ=some ((List.range n).map fun i:Nat=>D.int (i:Int)):=by
 have e:=cA3 0 n ((by decide)) ((by decide)) (bA0 rfl) (i_l (dE4 hn rfl))
 rw [show ((n:Int) - 0).toNat=n from eW0] at e
 rw [dO1 h,e]
 refine congrArg some (List.map_congr_left fun i _=>?_)
 rw [Int.zero_add]
theorem dN9 {Γ:List Fn} {a b:IE} {ρ:Ro} {m n:Nat} (h:ev Γ a true ρ=some (.int m)) (h':ev Γ b true ρ=some (.int n)) (hm:m≤n) (hn:n≤1000):bI2 Γ (.rng2 a b) ρ=some ((List.range (n - m)).map fun i:Nat=>D.int ((m+i:Nat):Int)):=by
 have e:=cA3 m n (bA0 rfl) (i_l (dE4 (aA9 hm hn) rfl)) (bA0 rfl) (i_l (dE4 hn rfl))
 rw [show ((n:Int) - (m:Int)).toNat=n - m from eV6] at e
 rw [dO0 h h',e]
 refine congrArg some (List.map_congr_left fun i _=>?_)
 rw [Int.natCast_add]
theorem aX0 {Γ:List Fn} {e:IE} {ρ:Ro} {ds:List D} (h:ev Γ e false ρ=some (.lst ds)):bI2 Γ (.seq e) ρ=some ds:=by
 (dsimp only [bI2];(rw [h];rfl))
theorem aK6 {Γ:List Fn} {i:Nat} {a:IE} {body:ISs} {ρ:Ro} {n:Nat} (I:Nat→Ro→Prop) (h:ev Γ a true ρ=some (.int n)) (hn:n≤1000) (h0:I 0 ρ)
  (st:∀ k,k < n→∀ ρ,I k ρ→∃ ao,aD7 Γ body (aA2 ρ i (.dat (.int k)))=some (.next ao)∧I (k+1) ao):∃ ao,run Γ (.for1 i (.rng1 a) body) ρ=some (.next ao)∧I n ao:=by
 (dsimp only [run];simp only [bV9 h hn,aC1])
 obtain ⟨ao,e,h'⟩:=aO8 (f:=fun d ρ=>aD7 Γ body (aD2 [(i,d)] ρ)) I ((List.range n).map fun i:Nat=>D.int (i:Int)) 0 ρ h0 fun j hj ρ hI=>by
  have hj':j < n:=by simpa using hj
  have:=st j hj' ρ (by simpa using hI)
  simpa [aD2] using this
 exact ⟨ao,e,by simpa using h'⟩
theorem bF6 {Γ:List Fn} {i:Nat} {a b:IE} {body:ISs} {ρ:Ro} {m n:Nat} (I:Nat→Ro→Prop) (h:ev Γ a true ρ=some (.int m)) (h':ev Γ b true ρ=some (.int n)) (hm:m≤n) (hn:n≤1000) (h0:I m ρ)
  (st:∀ k,m≤k→k < n→∀ ρ,I k ρ→∃ ao,aD7 Γ body (aA2 ρ i (.dat (.int k)))=some (.next ao)∧I (k+1) ao):∃ ao,run Γ (.for1 i (.rng2 a b) body) ρ=some (.next ao)∧I n ao:=by
 (dsimp only [run];simp only [dN9 h h' hm hn,aC1])
 obtain ⟨ao,e,h2⟩:=aO8 (f:=fun d ρ=>aD7 Γ body (aD2 [(i,d)] ρ)) I ((List.range (n - m)).map fun i:Nat=>D.int ((m+i:Nat):Int)) m ρ h0 fun j hj ρ hI=>by
  have hj':j < n - m:=by simpa using hj
  have:=st (m+j) dV3 (eT2 hj') ρ hI
  simpa [aD2] using this
 refine ⟨ao,e,?_⟩
 rw [List.length_map,List.length_range,show m+(n - m)=n from dP1 hm] at h2
 exact h2
theorem bA1 {f:Ro→Option (Option D)} {b:D→Option Ro}:∀ (ds rs:List D),ds.length=rs.length→(∀ j (h:j < ds.length) (h':j < rs.length),∃ ρ,b ds[j]=some ρ∧f ρ=some (some rs[j]))→aQ9 f b ds=some rs
 | [],[],_,_=>rfl
 | d::ds,r::rs,hl,h=>by
  obtain ⟨ρ,e1,e2⟩:=h 0 (by simp) (by simp)
  have e1':b d=some ρ:=e1
  have e2':f ρ=some (some r):=e2
  (dsimp only [aQ9];rw [e1'])
  simp only [aC1,e2']
  rw [bA1 ds rs (by simpa using hl) fun j h1 h2=>h (j+1) (by simpa using h1) (by simpa using h2)]
  rfl
theorem aN5 {Γ:List Fn} {elt:IE} {x:Nat} {a:IE} {tr:Bool} {ρ:Ro} {n:Nat} (g:Nat→D) (h:ev Γ a true ρ=some (.int n)) (hn:n≤1000)
  (st:∀ k,k < n→ev Γ elt false ((x,.dat (.int k))::aP4 ρ)=some (g k)):ev Γ (.comp elt x (.rng1 a) .nil) tr ρ=some (.lst ((List.range n).map g)):=by
 (dsimp only [ev];simp only [bV9 h hn,aC1])
 rw [if_pos (by simp [lim];exact aA9 hn (cl rfl))]
 rw [bA1 _ ((List.range n).map g) (by simp) fun j h1 h2=>⟨_,rfl,?_⟩]
 ·rfl
 ·have hj:j < n:=by simpa using h1
  (dsimp only [dJ0];simp only [aC1,if_true])
  simp only [List.getElem_map,List.getElem_range]
  rw [st j hj]
  rfl
theorem dF6 {Γ:List Fn} {elt:IE} {x:Nat} {a:IE} {tr:Bool} {ρ:Ro} {ds:List D} (g:D→D) (h:ev Γ a false ρ=some (.lst ds)) (hn:ds.length≤1000)
  (st:∀ d∈ds,ev Γ elt false ((x,.dat d)::aP4 ρ)=some (g d)):ev Γ (.comp elt x (.seq a) .nil) tr ρ=some (.lst (ds.map g)):=by
 (dsimp only [ev];simp only [aX0 h,aC1])
 rw [if_pos (by simp [lim];exact aA9 hn (cl rfl))]
 rw [bA1 _ (ds.map g) (by simp) fun j h1 h2=>⟨_,rfl,?_⟩]
 ·rfl
 ·(dsimp only [dJ0];rw [aC1])
  rw [List.getElem_map,st _ (List.getElem_mem h1)]
  rfl
theorem aA4 {Γ:List Fn} {i:IS} {is:ISs} {ρ ao:Ro} (h:run Γ i ρ=some (.next ao)):aD7 Γ (.cons i is) ρ=aD7 Γ is ao:=by (dsimp only [aD7];rw [h]);rfl
theorem aE0 {Γ:List Fn} {i:IS} {is:ISs} {ρ:Ro} {d:D} (h:run Γ i ρ=some (.ret d)):aD7 Γ (.cons i is) ρ=some (.ret d):=by (dsimp only [aD7];rw [h]);rfl
theorem aB1 {Γ ΓN:List Fn} {i:NS} {is:NSs} {ρ ao:Ro} (h:runN Γ ΓN i ρ=some (.next ao)):aC8 Γ ΓN (.cons i is) ρ=aC8 Γ ΓN is ao:=by (dsimp only [aC8];rw [h]);rfl
theorem aX1 {Γ ΓN:List Fn} {i:NS} {is:NSs} {ρ:Ro} {d:D} (h:runN Γ ΓN i ρ=some (.ret d)):aC8 Γ ΓN (.cons i is) ρ=some (.ret d):=by (dsimp only [aC8];rw [h]);rfl
end Mine
end
section
open PySem PySem.W PyProof.Rows PySem.Calls PySem.Spec
open Builtin.Str (strSub subAt occurrences partsBetween glued)
set_option autoImplicit false
set_option maxRecDepth 100000
namespace Mine
noncomputable abbrev S (l:List Nat):Str:=⟨l.toArray⟩
theorem eY2 (x:Str):S x.cps.toList=x:=by cases x;rfl
theorem dI1 {a b:List Nat} (h:S a=S b):a=b:=by
 have:=congrArg (fun x:Str=>x.cps.toList) h
 exact this
theorem dI2 (a b:List Nat):S a++S b=S (a++b):=Str.ext' (by show a.toArray++b.toArray=_;simp)
theorem aG6 (a:List Nat):(S a).length=a.length:=by simp [Str.length]
noncomputable def bI1 (sep:List Nat):List (List Nat)→List Nat
 | []=>[]
 | [x]=>x
 | x::y::r=>x++sep++bI1 sep (y::r)
theorem dK8 (sep:List Nat):∀ ls:List (List Nat),Txt.join (S sep) (ls.map S)=S (bI1 sep ls):=by
 intro ls
 show glued _ _=_
 rw [StrLaws.glued_eq_join]
 induction ls with
 | nil=>rfl
 | cons x r ih =>
  cases r with
  | nil=>rfl
  | cons y r =>
   show S x++S sep++Str.join (S sep) ((y::r).map S)=_
   rw [ih,dI2,dI2]
   rfl
theorem cH9 (sep x:List Nat) (r:List (List Nat)):bI1 sep (x::r)=x++r.flatMap fun y=>sep++y:=by
 induction r generalizing x with
 | nil=>(dsimp only [bI1];simp)
 | cons y r ih=>(dsimp only [bI1];rw [ih]);simp
theorem dU8 {a:List Nat} (h:∀ c∈a,c < 128):Txt.upper (S a)=S (a.map up1):=by
 rw [upper_ascii (x:=S a) (h)]
 exact Str.ext' (by simp)
theorem dU9 {a:List Nat} (h:∀ c∈a,c < 128):Txt.lower (S a)=S (a.map lo1):=by
 rw [lower_ascii (x:=S a) (h)]
 exact Str.ext' (by simp)
noncomputable def bM5 (y:List Nat):Nat→Nat→List Nat→List Nat
 | _,_,[]=>[]
 | i,k+1,_::r=>bM5 y (i+1) k r
 | i,0,c::r=>if y.isPrefixOf (c::r)=true then i::bM5 y (i+1) (y.length - 1) r else bM5 y (i+1) 0 r
noncomputable def aE1 (y z:List Nat):Nat→List Nat→List Nat
 | _,[]=>[]
 | k+1,_::r=>aE1 y z k r
 | 0,c::r=>if y.isPrefixOf (c::r)=true then z++aE1 y z (y.length - 1) r else c::aE1 y z 0 r
theorem bL2 (x y:List Nat) (i:Nat):(i+(S y).length≤(S x).length∧subAt (S x) (S y) i=true)↔i≤x.length∧y.isPrefixOf (x.drop i)=true:=by
 rw [StrLaws.subAt_eq,aG6,aG6,beq_iff_eq,List.isPrefixOf_iff_prefix]
 simp only [List.toList_toArray]
 constructor
 ·rintro ⟨h1,h2⟩
  exact ⟨bB7 h1,h2 ▸ List.take_prefix _ _⟩
 ·rintro ⟨h1,h2⟩
  have:=h2.length_le
  rw [List.length_drop] at this
  exact ⟨eS2 h1 this,(List.prefix_iff_eq_take.mp h2).symm⟩
theorem bC3 (x y:List Nat) (hy:y≠[]) (limit:Nat):∀ (l:List Nat) (i k:Nat) (found:Array Nat) (free:Nat),x.drop i=l→i≤x.length→found.size≤i→x.length < limit→(k=0→free≤i)→(0 < k→free=i+k) →
  (forIn (List.range' i (x.length+1 - i)) (found,free) (StrLaws.occBody (S x) (S y) (S x).length limit)).run.fst.toList=found.toList++bM5 y i k l
 | [],i,k,found,free,e,hi,hf,hl,h0,hk=>by
  have hi':x.length≤i:=List.drop_eq_nil_iff.mp e
  rw [show x.length+1 - i=1 from eS7 hi hi',show List.range' i 1=[i] from rfl,List.forIn_cons]
  have hno:¬ (((found,free).fst.size < limit∧(found,free).snd≤i)∧i+(S y).length≤(S x).length):=by
   rw [aG6,aG6]
   have:0 < y.length:=List.length_pos_iff.mpr hy
   lia
  dsimp only [StrLaws.occBody]
  rw [if_neg (fun z=>hno z.1)]
  (dsimp only [bM5];simp)
 | c::l,i,k,found,free,e,hi,hf,hl,h0,hk=>by
  have hlt:i < x.length:=by
   rcases Nat.lt_or_ge i x.length with h | h
   ·exact h
   ·rw [List.drop_eq_nil_iff.mpr h] at e;cases e
  have e':x.drop (i+1)=l:=by rw [← List.drop_drop,e];rfl
  rw [show x.length+1 - i=(x.length+1 - (i+1))+1 from eR1 hlt,List.range'_succ,List.forIn_cons]
  have hy0:0 < y.length:=List.length_pos_iff.mpr hy
  cases k with
  | succ k =>
   have hfr:=hk dV2
   have hno:¬ (((found,free).fst.size < limit∧(found,free).snd≤i)∧i+(S y).length≤(S x).length):=by
    show ¬ ((_∧free≤i)∧_)
    lia
   have step:StrLaws.occBody (S x) (S y) (S x).length limit i (found,free)=pure (ForInStep.yield (found,free)):=by
    dsimp only [StrLaws.occBody]
    rw [if_neg (fun z=>hno z.1)]
   rw [step]
   simp only [pure_bind]
   rw [bC3 x y hy limit l (i+1) k found free e' (q_s hlt) (aO0 hf) hl (fun z=>by lia) (fun _=>dO8 hk)]
   rfl
  | zero =>
   have hfr:=h0 rfl
   by_cases hp:y.isPrefixOf (c::l)=true
   ·have hyes:=(bL2 x y i).mpr ⟨hi,by rw [e];exact hp⟩
    have step:StrLaws.occBody (S x) (S y) (S x).length limit i (found,free)=pure (ForInStep.yield (found.push i,i+(S y).length)):=by
     dsimp only [StrLaws.occBody]
     rw [if_pos ⟨⟨⟨by show found.size < limit;exact aL3 hf (aL3 hi hl),hfr⟩,hyes.1⟩,hyes.2⟩]
    rw [step]
    simp only [pure_bind]
    rw [bC3 x y hy limit l (i+1) (y.length - 1) (found.push i) _ e' (q_s hlt) (by simp;exact hf) hl (fun z=>by rw [aG6];exact bL9 cL0 (dO5 z)) (fun _=>by rw [aG6];exact eG8 hy0)]
    (dsimp only [bM5];rw [if_pos hp])
    simp
   ·have hno:¬ ((((found,free).fst.size < limit∧(found,free).snd≤i)∧i+(S y).length≤(S x).length)∧subAt (S x) (S y) i=true):=fun z=>by
     have:=(bL2 x y i).mp ⟨z.1.2,z.2⟩
     rw [e] at this
     exact hp this.2
    have step:StrLaws.occBody (S x) (S y) (S x).length limit i (found,free)=pure (ForInStep.yield (found,free)):=by
     dsimp only [StrLaws.occBody]
     rw [if_neg hno]
    rw [step]
    simp only [pure_bind]
    rw [bC3 x y hy limit l (i+1) 0 found free e' (q_s hlt) (aO0 hf) hl (fun _=>aO0 hfr) (fun z=>by lia)]
    (dsimp only [bM5];rw [if_neg hp])
theorem eA3 (x y:List Nat) (hy:y≠[]):occurrences (S x) (S y) 0 (S x).length ((S x).length+1)=bM5 y 0 0 x:=by
 rw [StrLaws.occ_eq,aG6]
 have:=bC3 x y hy (x.length+1) x 0 0 #[] 0 rfl dV5 (by simp) (dJ5 cL0) (fun _=>(cl rfl)) (fun z=>(by decide))
 rw [aG6] at this
 exact this
theorem aT6 (x z:List Nat) (y:List Nat) (hy:y≠[]):∀ (l:List Nat) (i k a:Nat),x.drop i=l→a≤i+k→(0 < k→a=i+k)→
  (Str.join (S z) (StrLaws.partsFrom (S x) y.length a (bM5 y i k l))).cps.toList=((x.drop a).take (i - a))++aE1 y z k l
 | [],i,k,a,e,ha,hk=>by
  have hi':x.length≤i:=List.drop_eq_nil_iff.mp e
  show (strSub (S x) a (S x).length).cps.toList=_
  rw [StrLaws.strSub_toList,aG6]
  have e1:(x.drop a).take (x.length - a)=x.drop a:=List.take_of_length_le (by rw [List.length_drop];exact cL0)
  have e2:(x.drop a).take (i - a)=x.drop a:=List.take_of_length_le (by rw [List.length_drop];exact dZ2 hi')
  simp only [List.toList_toArray]
  (rw [e1,e2];dsimp only [aE1];rw [List.append_nil])
 | c::l,i,k,a,e,ha,hk=>by
  have hlt:i < x.length:=by
   rcases Nat.lt_or_ge i x.length with h | h
   ·exact h
   ·rw [List.drop_eq_nil_iff.mpr h] at e;cases e
  have e':x.drop (i+1)=l:=by rw [← List.drop_drop,e];rfl
  have hy0:0 < y.length:=List.length_pos_iff.mpr hy
  cases k with
  | succ k =>
   have hfr:=hk dV2
   (dsimp only [bM5];rw [aT6 x z y hy l (i+1) k a e' (dV6 (dO8 hk)) (fun _=>dO8 hk)];dsimp only [aE1])
   rw [show i+1 - a=0 from eK2 hk,show i - a=0 from eO1 (bB7 (dA7 hfr))]
  | zero =>
   by_cases hp:y.isPrefixOf (c::l)=true
   ·(dsimp only [bM5];rw [if_pos hp];dsimp only [aE1];rw [if_pos hp])
    have ih:=aT6 x z y hy l (i+1) (y.length - 1) (i+y.length) e' (eJ7 hy0) (fun _=>eG8 hy0)
    rw [show i+1 - (i+y.length)=0 from eO1 (bL9 cL0 (q_s hy0)),List.take_zero,List.nil_append] at ih
    show (Str.join (S z) (strSub (S x) a i::StrLaws.partsFrom (S x) y.length (i+y.length) _)).cps.toList=_
    obtain ⟨p,q,hpq⟩:=StrLaws.partsFrom_ne (S x) y.length (i+y.length) (bM5 y (i+1) (y.length - 1) l)
    rw [hpq] at ih ⊢
    show (strSub (S x) a i++S z++Str.join (S z) (p::q)).cps.toList=_
    rw [Str.cps_append,Str.cps_append,Array.toList_append,Array.toList_append,ih,StrLaws.strSub_toList]
    simp
   ·(dsimp only [bM5];rw [if_neg hp];dsimp only [aE1];rw [if_neg hp,aT6 x z y hy l (i+1) 0 a e' (aO0 ha) (fun z=>by lia)])
    have:(x.drop a).take (i+1 - a)=(x.drop a).take (i - a)++[c]:=by
     rw [show i+1 - a=(i - a)+1 from cO5 ha,List.take_add_one,List.getElem?_drop,show a+(i - a)=i from dP1 ha]
     have:x[i]?=some c:=by
      have:=congrArg (·[0]?) e
      simpa using this
     rw [this];rfl
    rw [this];simp
theorem cA5 (y z:List Nat):∀ (l:List Nat) (i k:Nat),bM5 y i k l=[]→k=0→aE1 y z k l=l
 | [],_,_,_,_=>rfl
 | c::l,i,0,h,_=>by
  (dsimp only [bM5] at h)
  split at h
  ·cases h
  ·rename_i hp
   (dsimp only [aE1];rw [if_neg hp,cA5 y z l (i+1) 0 h rfl])
 | _::_,_,_+1,_,h=>by cases h
theorem bH3 (x y z:List Nat) (hy:y≠[]):Txt.replace (S x) (S y) (S z)=S (aE1 y z 0 x):=by
 dsimp only [Txt.replace]
 rw [eA3 x y hy]
 have hy0:0 < y.length:=List.length_pos_iff.mpr hy
 have:((S y).length == 0)=false:=by rw [aG6];exact beq_eq_false_iff_ne.mpr (dA6 hy0)
 rw [this,Bool.false_and,Bool.or_false]
 split
 ·rename_i h
  rw [cA5 y z x 0 0 (List.isEmpty_iff.mp h) rfl]
 ·rw [StrLaws.glued_eq_join,StrLaws.partsBetween_eq,aG6]
  have:=aT6 x z y hy x 0 0 0 rfl ((cl rfl)) (fun z=>(by decide))
  apply Str.ext'
  apply Array.toList_inj.mp
  rw [this]
  simp
theorem cS4 (x y:List Nat):aZ9 (S x) (S y)=true↔x <:+: y:=by
 dsimp only [aZ9]
 rw [StrLaws.found_iff]
 constructor
 ·rintro ⟨i,h1,h2⟩
  have:=(bL2 y x i).mp ⟨h1,h2⟩
  have hp:=List.isPrefixOf_iff_prefix.mp this.2
  exact hp.isInfix.trans (List.drop_suffix i y).isInfix
 ·rintro ⟨s,t,e⟩
  refine ⟨s.length,(bL2 y x s.length).mpr ⟨by rw [← e];simp,?_⟩⟩
  rw [List.isPrefixOf_iff_prefix,← e,List.append_assoc,List.drop_left]
  exact List.prefix_append _ _
theorem cP2 (c a:Nat) (l:List Nat):[c].isPrefixOf (a::l)=(c == a):=by
 show (c == a&&[].isPrefixOf l)=_
 rw [List.isPrefixOf_nil_left,Bool.and_true]
theorem cO2 (c d:Nat):∀ l:List Nat,aE1 [c] [d] 0 l=l.map fun a=>if a=c then d else a
 | []=>rfl
 | a::l=>by
  (dsimp only [aE1];rw [cP2,List.map_cons,← cO2 c d l])
  by_cases h:a=c
  ·rw [if_pos (beq_iff_eq.mpr h.symm),if_pos h]
   rfl
  ·rw [if_neg (fun z=>h (beq_iff_eq.mp z).symm),if_neg h]
theorem eG1 (c d:Nat) (l:List Nat):Txt.replace (S l) (S [c]) (S [d])=S (l.map fun a=>if a=c then d else a):=by
 rw [bH3 _ _ _ (by simp),cO2]
end Mine
end
section
open PySem PySem.W PyProof.Rows PySem.Calls PySem.Spec
open Builtin.Str (strSub subAt occurrences partsBetween glued)
set_option autoImplicit false
set_option maxRecDepth 100000
namespace Mine
theorem bI8 {p:Nat→Bool}:∀ (a r:List Nat),(∀ c∈a,p c=true)→(∀ c,r.head?=some c→p c=false)→(a++r).takeWhile p=a
 | [],[],_,_=>rfl
 | [],c::r,_,h=>by rw [List.nil_append,List.takeWhile_cons,h c rfl];rfl
 | c::a,r,h,h'=>by
  rw [List.cons_append,List.takeWhile_cons,h c (.head _),if_pos rfl,bI8 a r (fun d hd=>h d (.tail _ hd)) h']
theorem cZ5 (x:Str):Txt.strip x=strSub x (PySem.stripLo Unicode.isSpace true x) (PySem.stripHi Unicode.isSpace true x (PySem.stripLo Unicode.isSpace true x)):=by
 dsimp only [Txt.strip,Txt.stripBy]
 split
 ·rename_i h
  dsimp only [PySem.stripSame] at h
  rw [Bool.and_eq_true,beq_iff_eq,beq_iff_eq] at h
  rw [h.2,h.1]
  apply Str.ext'
  apply Array.toList_inj.mp
  rw [StrLaws.strSub_toList]
  have:x.cps.toList.take x.cps.size=x.cps.toList:=List.take_of_length_le (by simp)
  simp [Str.length,this]
 ·rfl
theorem bO6 (a m b:List Nat) (ha:∀ c∈a,Unicode.isSpace c=true) (hb:∀ c∈b,Unicode.isSpace c=true) (h1:∀ c,m.head?=some c→Unicode.isSpace c=false) (h2:∀ c,m.getLast?=some c→Unicode.isSpace c=false) (hm:m≠[]) :
  Txt.strip (S (a++m++b))=S m:=by
 rw [cZ5]
 have lo:PySem.stripLo Unicode.isSpace true (S (a++m++b))=a.length:=by
  dsimp only [PySem.stripLo]
  rw [if_pos rfl]
  show ((a++m++b).takeWhile _).length=_
  rw [List.append_assoc,bI8 a (m++b) ha]
  intro c hc
  apply h1 c
  cases m with
  | nil=>exact absurd rfl hm
  | cons d m=> exact hc
 rw [lo]
 have hi:PySem.stripHi Unicode.isSpace true (S (a++m++b)) a.length=a.length+m.length:=by
  dsimp only [PySem.stripHi]
  rw [if_pos rfl,aG6]
  show _ - ((List.drop a.length (a++m++b)).reverse.takeWhile _).length=_
  rw [List.append_assoc,List.drop_left,List.reverse_append,bI8 b.reverse m.reverse]
  ·simp;exact eK7
  ·intro c hc;exact hb c (by simpa using hc)
  ·intro c hc;apply h2 c;rw [List.head?_reverse] at hc;exact hc
 rw [hi]
 apply Str.ext'
 apply Array.toList_inj.mp
 rw [StrLaws.strSub_toList]
 show List.take _ (List.drop a.length (a++m++b))=m
 rw [List.append_assoc,List.drop_left,show a.length+m.length - a.length=m.length from dZ4,List.take_left]
noncomputable def col:Bool→List Nat→List Nat
 | _,[]=>[]
 | p,c::r=>if c=45 then (if p=true then col true r else 45::col true r) else c::col false r
noncomputable abbrev dd (l:List Nat):List Nat:=aE1 [45,45] [45] 0 l
theorem cP1 (a b:Nat) (l:List Nat):[45,45].isPrefixOf (a::b::l)=(decide (a=45)&&decide (b=45)):=by
 show (45 == a&&(45 == b&&[].isPrefixOf l))=_
 rw [List.isPrefixOf_nil_left,Bool.and_true]
 congr 1
 ·rw [Bool.eq_iff_iff,beq_iff_eq,decide_eq_true_eq];exact eq_comm
 ·rw [Bool.eq_iff_iff,beq_iff_eq,decide_eq_true_eq];exact eq_comm
theorem eQ2:dd []=[]:=rfl
theorem cT9 (a:Nat):dd [a]=[a]:=by
 show aE1 _ _ 0 [a]=_
 rw [aE1,if_neg (by simp [List.isPrefixOf])]
 rfl
theorem cC5 (l:List Nat):dd (45::45::l)=45::dd l:=by
 show aE1 _ _ 0 _=_
 (dsimp only [aE1];rw [cP1,if_pos (by decide)])
 rfl
theorem bN7 {a b:Nat} {l:List Nat} (h:¬ (a=45∧b=45)):dd (a::b::l)=a::dd (b::l):=by
 show aE1 _ _ 0 _=_
 rw [aE1,cP1,if_neg (by simpa using h)]
theorem cC4:∀ (n:Nat) (l:List Nat),l.length≤n→(dd l).length≤l.length
 | _,[],_=>Nat.le_refl _
 | _,[a],_=>by rw [cT9];exact Nat.le_refl _
 | 0,_::_::_,h=>by simp at h
 | n+1,a::b::l,h=>by
  by_cases q:a=45∧b=45
  ·obtain ⟨rfl,rfl⟩:=q
   rw [cC5]
   have:=cC4 n l (by simp at h;exact bB7 h)
   simp;exact aO0 this
  ·rw [bN7 q]
   have:=cC4 n (b::l) (by simp at h ⊢;exact h)
   simp at this ⊢;exact this
theorem cU1:∀ (n:Nat) (l:List Nat),l.length≤n→∀ p,col p (dd l)=col p l
 | _,[],_,_=>rfl
 | _,[a],_,_=>by rw [cT9]
 | 0,_::_::_,h,_=>by simp at h
 | n+1,a::b::l,h,p=>by
  by_cases q:a=45∧b=45
  ·obtain ⟨rfl,rfl⟩:=q
   rw [cC5]
   have:=cU1 n l (by simp at h;exact bB7 h) true
   simp [col,this]
  ·rw [bN7 q]
   have:=fun p=>cU1 n (b::l) (by simp at h ⊢;exact h) p
   simp only [col] at this ⊢
   simp only [this]
theorem dK4:∀ (n:Nat) (l:List Nat),l.length≤n→dd l=l→col false l=l
 | _,[],_,_=>rfl
 | _,[a],_,_=>by
  by_cases h:a=45<;>simp [col,h]
 | 0,_::_::_,h,_=>by simp at h
 | n+1,a::b::l,h,e=>by
  by_cases q:a=45∧b=45
  ·obtain ⟨rfl,rfl⟩:=q
   rw [cC5] at e
   have h1:=congrArg List.length e
   have h2:=cC4 l.length l (Nat.le_refl _)
   simp at h1;omega
  ·rw [bN7 q] at e
   have e2:dd (b::l)=b::l:=by injection e
   have ih:=dK4 n (b::l) (by simp at h ⊢;exact h) e2
   by_cases ha:a=45
   ·have hb:¬ b=45:=fun z=>q ⟨ha,z⟩
    simp only [col,ha,if_true,if_neg hb] at ih ⊢
    simp [ih]
   ·rw [col,if_neg ha,ih]
theorem eE2:∀ (n:Nat) (l:List Nat),l.length≤n→dd l≠l→(dd l).length < l.length
 | _,[],_,h=>absurd rfl h
 | _,[a],_,h=>absurd (cT9 a) h
 | 0,_::_::_,h,_=>by simp at h
 | n+1,a::b::l,h,e=>by
  by_cases q:a=45∧b=45
  ·obtain ⟨rfl,rfl⟩:=q
   rw [cC5]
   have:=cC4 l.length l (Nat.le_refl _)
   simp;exact dJ5 this
  ·rw [bN7 q] at e ⊢
   have:=eE2 n (b::l) (by simp at h ⊢;exact h) fun z=>e (congrArg _ z)
   simp at this ⊢;exact this
theorem bD8 (y z:List Nat):∀ (l:List Nat) (k c:Nat),c∈aE1 y z k l→c∈l∨c∈z
 | [],_,_,h=>.inl (h)
 | a::l,0,c,h=>by
  (dsimp only [aE1] at h)
  split at h
  ·rcases List.mem_append.mp h with h | h
   ·exact .inr h
   ·rcases bD8 y z l _ c h with h | h
    ·exact .inl (.tail _ h)
    ·exact .inr h
  ·rcases List.mem_cons.mp h with h | h
   ·exact .inl (h ▸ .head _)
   ·rcases bD8 y z l _ c h with h | h
    ·exact .inl (.tail _ h)
    ·exact .inr h
 | a::l,k+1,c,h=>by
  (dsimp only [aE1] at h)
  rcases bD8 y z l _ c h with h | h
  ·exact .inl (.tail _ h)
  ·exact .inr h
theorem bL6 (y z:List Nat) (hz:z.length≤y.length):∀ (l:List Nat) (k:Nat),(aE1 y z k l).length≤l.length - k
 | [],_=>by (dsimp only [aE1];simp)
 | a::l,0=>by
  (dsimp only [aE1])
  split
  ·rename_i h
   have h1:=(List.isPrefixOf_iff_prefix.mp h).length_le
   have h2:=bL6 y z hz l (y.length - 1)
   simp at h1 ⊢;omega
  ·have h2:=bL6 y z hz l 0
   simp at h2 ⊢;exact h2
 | a::l,k+1=>by
  (dsimp only [aE1])
  have h2:=bL6 y z hz l k
  simp at h2 ⊢;exact h2
noncomputable def aN4 (l:List Nat):List Nat:=(l.reverse.dropWhile (· == 45)).reverse
theorem aQ5 (l:List Nat) (c:Nat):aN4 (l++[c])=if c=45 then aN4 l else l++[c]:=by
 dsimp only [aN4]
 rw [List.reverse_append,List.reverse_singleton,List.singleton_append,List.dropWhile_cons]
 by_cases h:c=45<;>simp [h]
theorem aN7 {l:List Nat} (h:∀ c∈l,c < 128):PyData.strOk (S l)=true:=by
 dsimp only [PyData.strOk]
 simp only [Array.all_eq_true',decide_eq_true_eq]
 intro c hc
 have:=h c (by simpa using hc)
 exact eU7 this rfl
theorem bO0 {a b:List Nat} (ha:∀ c∈a,c < 128) (hb:∀ c∈b,c < 128):bG5 .eq (.str (S a)) (.str (S b))=some (decide (a=b)):=by
 show (if aB0 4 (.str (S a))&&aB0 4 (.str (S b)) then some (PyData.eqv (pd (.str (S a))) (pd (.str (S b)))) else eqX (.str (S a)) (.str (S b)))=_
 have e1:aB0 4 (.str (S a))=true:=by (dsimp only [aB0]);exact aN7 ha
 have e2:aB0 4 (.str (S b))=true:=by (dsimp only [aB0]);exact aN7 hb
 rw [e1,e2,if_pos (by decide)]
 congr 1
 (dsimp only [pd])
 rw [PyData.eqv,Bool.eq_iff_iff,beq_iff_eq,decide_eq_true_eq]
 exact ⟨dI1,fun z=>(congrArg _ z)⟩
end Mine
end
section
open PySem PySem.W PyProof.Rows PySem.Calls PySem.Spec
open Builtin.Str (strSub subAt occurrences partsBetween glued)
set_option autoImplicit false
set_option maxRecDepth 100000
namespace Mine
noncomputable abbrev ddT:IT:=.tr (.bool true)
noncomputable abbrev ddB:ISs:=(.cons (.asg 2 (.repl (.var 1) "--" "-")) (.cons (.ite (.cmp .eq (.var 2) (.var 1)) (.cons (.brk) .nil) .nil) (.cons (.asg 1 (.var 2)) .nil)))
theorem eB3:(("--":String):Str)=S [45,45]:=by decide +kernel
theorem aZ7:(("-":String):Str)=S [45]:=by decide +kernel
theorem bX8 {Γ:List Fn} {a:IE} {y z:Str} {tr:Bool} {ρ:Ro} {x:Str} (h:ev Γ a true ρ=some (.str x)) (h1:x.length≤lim) (h2:z.length≤14) (h3:(y == z)=false):ev Γ (.repl a y z) tr ρ=some (.str (Txt.replace x y z)):=by
 (dsimp only [ev];simp only [h,aC1])
 rw [if_pos ⟨h1,h2,h3⟩]
theorem aD1 {Γ:List Fn} {i:Nat} {e:IE} {ρ:Ro} {d:D} (h:ev Γ e false ρ=some d):run Γ (.asg i e) ρ=some (.next (aA2 ρ i (.dat d))):=by
 (dsimp only [run];simp only [h,bO9])
theorem aI3 {Γ:List Fn} {t:IT} {a b:ISs} {ρ:Ro} (h:tst Γ t ρ=some true):run Γ (.ite t a b) ρ=aD7 Γ a ρ:=by
 (dsimp only [run];(rw [h,aC1];rfl))
theorem aF2 {Γ:List Fn} {t:IT} {a b:ISs} {ρ:Ro} (h:tst Γ t ρ=some false):run Γ (.ite t a b) ρ=aD7 Γ b ρ:=by
 (dsimp only [run];(rw [h,aC1];rfl))
theorem aD8 {Γ:List Fn} {op:COp} {a b:IE} {ρ:Ro} {x y:D} {r:Bool} (h1:ev Γ a true ρ=some x) (h2:ev Γ b true ρ=some y) (h3:bG5 op x y=some r):tst Γ (.cmp op a b) ρ=some r:=by
 (dsimp only [tst];simp only [h1,h2,aC1,h3])
theorem cU0:∀ (fuel:Nat) (l:List Nat) (ρ:Ro),l.length < fuel→l.length≤4000→(∀ c∈l,c < 128)→ρ.lookup 1=some (.dat (.str (S l))) →
  ∃ ao,aR6 (tst [] ddT) (aD7 [] ddB) fuel ρ=some (.next ao)∧ao.lookup 1=some (.dat (.str (S (col false l))))
 | 0,l,_,h,_,_,_=>absurd h (Nat.not_lt_zero _)
 | n+1,l,ρ,h,hm,ha,h1=>by
  have ht:tst [] ddT ρ=some true:=by (dsimp only [tst,ev];simp [ddT,bD1])
  have e2:run [] (.asg 2 (.repl (.var 1) "--" "-")) ρ=some (.next (aA2 ρ 2 (.dat (.str (S (dd l)))))):=by
   refine aD1 ?_
   rw [bX8 (aA1 h1) (by rw [aG6];unfold lim;exact aA9 hm (cl rfl)) (by decide +kernel) (by decide +kernel),eB3,aZ7,bH3 _ _ _ (by simp)]
  have hda:∀ c∈dd l,c < 128:=fun c hc=>by
   rcases bD8 _ _ _ _ _ hc with q | q
   ·exact ha c q
   ·rw [List.mem_singleton.mp q];decide
  have l2:(aA2 ρ 2 (.dat (.str (S (dd l))))).lookup 2=some (.dat (.str (S (dd l)))):=by rw [aB9,if_pos rfl]
  have l1:(aA2 ρ 2 (.dat (.str (S (dd l))))).lookup 1=some (.dat (.str (S l))):=by rw [aB9,if_neg (by decide),h1]
  have hc:tst [] (.cmp .eq (.var 2) (.var 1)) (aA2 ρ 2 (.dat (.str (S (dd l)))))=some (decide (dd l=l)):=aD8 (aA1 l2) (aA1 l1) (bO0 hda ha)
  (dsimp only [aR6];rw [ht,aC1,if_pos rfl])
  by_cases hf:dd l=l
  ·have hb:aD7 [] ddB ρ=some (.brk (aA2 ρ 2 (.dat (.str (S (dd l)))))):=by
    (rw [ddB,aA4 e2];dsimp only [aD7];rw [aI3 (by rw [hc,decide_eq_true hf])])
    (dsimp only [aD7,run];simp)
   rw [hb]
   refine ⟨_,rfl,?_⟩
   rw [l1,dK4 l.length l (Nat.le_refl _) hf]
  ·have hb:aD7 [] ddB ρ=some (.next (aA2 (aA2 ρ 2 (.dat (.str (S (dd l))))) 1 (.dat (.str (S (dd l)))))):=by
    (rw [ddB,aA4 e2];dsimp only [aD7];rw [aF2 (by rw [hc,decide_eq_false hf])])
    (dsimp only [aD7];simp only [aC1,aD1 (aA1 l2)])
   rw [hb]
   have hlt:=eE2 l.length l (Nat.le_refl _) hf
   obtain ⟨ao,e,h'⟩:=cU0 n (dd l) (aA2 (aA2 ρ 2 (.dat (.str (S (dd l))))) 1 (.dat (.str (S (dd l))))) (aM7 hlt (eS1 h)) (bL8 (aM7 hlt hm)) hda (by rw [aB9,if_pos rfl])
   refine ⟨ao,e,?_⟩
   rw [h',cU1 l.length l (Nat.le_refl _)]
noncomputable abbrev tdT:IT:=.bools true (.cons (.tr (.var 1)) (.cons (.cmp .eq (.idx (.var 1) (.neg 1)) (.str "-")) .nil))
noncomputable abbrev tdB:ISs:=.cons (.asg 1 (.slcTo (.var 1) (.neg 1))) .nil
theorem cN1:∀ (fuel:Nat) (l:List Nat) (ρ:Ro),l.length < fuel→l.length≤4000→(∀ c∈l,c < 128)→ρ.lookup 1=some (.dat (.str (S l))) →
  ∃ ao,aR6 (tst [] tdT) (aD7 [] tdB) fuel ρ=some (.next ao)∧ao.lookup 1=some (.dat (.str (S (aN4 l))))
 | 0,l,_,h,_,_,_=>absurd h (Nat.not_lt_zero _)
 | n+1,l,ρ,h,hm,ha,h1=>by
  have ht1:tst [] (.tr (.var 1)) ρ=some (!l.isEmpty):=by
   (dsimp only [tst];(rw [aA1 h1,aC1];dsimp only [bD1];rw [if_pos (by rw [aG6];exact aL3 hm (cl rfl))]))
   cases l<;>simp
  rcases List.eq_nil_or_concat l with rfl | ⟨m,c,rfl⟩
  ·have ht:tst [] tdT ρ=some false:=by
    (rw [tdT];dsimp only [tst];dsimp only [aP5];rw [ht1]);rfl
   (dsimp only [aR6];rw [ht])
   exact ⟨ρ,rfl,h1⟩
  ·rw [List.concat_eq_append] at *
   have hi:ev [] (.idx (.var 1) (.neg 1)) true ρ=some (.str (S [c])):=by
    (dsimp only [ev];simp only [aA1 h1,aC1])
    rw [h1]
    show bJ8 (.str _) (.int (-1))=_
    (dsimp only [bJ8];rw [if_pos (by decide)])
    have hs:seqIndex? (-1) (S (m++[c])).length=some m.length:=by
     rw [aG6,seqIndex?]
     simp
     lia
    rw [hs]
    simp
   have ht2:tst [] (.cmp .eq (.idx (.var 1) (.neg 1)) (.str "-")) ρ=some (decide (c=45)):=by
    rw [aD8 hi (y:=.str (S [45])) (by (dsimp only [ev];rw [aZ7])) (bO0 (fun d hd=>ha d (by simp at hd;simp [hd])) (by simp))]
    simp
   have ht:tst [] tdT ρ=some (decide (c=45)):=by
    (rw [tdT];dsimp only [tst];dsimp only [aP5];rw [ht1])
    rw [ht2,aC1]
    by_cases q:c=45<;>simp [q]
   (dsimp only [aR6];rw [ht,aC1,aQ5])
   by_cases q:c=45
   ·rw [if_pos (by simpa using q),if_pos q]
    have hs:ev [] (.slcTo (.var 1) (.neg 1)) false ρ=some (.str (S m)):=by
     (dsimp only [ev];simp only [aA1 h1,aC1])
     rw [h1]
     show cZ9 (.str _) none (.int (-1))=_
     (dsimp only [cZ9];rw [if_pos ⟨rfl,by rw [aG6];simp,by rw [aG6];unfold lim;exact aA9 hm (cl rfl)⟩])
     simp
    have hb:aD7 [] tdB ρ=some (.next (aA2 ρ 1 (.dat (.str (S m))))):=by
     (rw [tdB,aA4 (aD1 hs)];dsimp only [aD7])
    rw [hb]
    exact cN1 n m _ (by simp at h;exact h) (by simp at hm;exact aO0 hm) (fun d hd=>ha d (by simp [hd])) (by rw [aB9,if_pos rfl])
   ·rw [if_neg (by simpa using q),if_neg q]
    exact ⟨ρ,rfl,h1⟩
noncomputable def clean (a:Nat):Nat:=if a=32 then 95 else if a=47∨a=92∨a=58∨a=59∨a=34∨a=40∨a=41 then 45 else a
noncomputable def unk:List Nat:=[117,110,107,110,111,119,110]
theorem eV4:((" ":String):Str)=S [32]∧(("_":String):Str)=S [95]∧(("/":String):Str)=S [47]∧(("\\":String):Str)=S [92]∧((":":String):Str)=S [58]∧((";":String):Str)=S [59]∧(("\"":String):Str)=S [34] ∧
  (("(":String):Str)=S [40]∧((")":String):Str)=S [41]∧(("unknown":String):Str)=S unk∧(("":String):Str)=S []:=by decide +kernel
noncomputable def cF9 (l:List Nat):List Nat:=aN4 (col false (aE1 unk [] 0 (l.map clean)))
theorem aN6 {ρ:Ro} {y z:Str} {c d:Nat} {l:List Nat} (hy:y=S [c]) (hz:z=S [d]) (hne:c≠d) (hl:l.length≤4000) (h1:ρ.lookup 1=some (.dat (.str (S l)))) :
  run [] (.asg 1 (.repl (.var 1) y z)) ρ=some (.next (aA2 ρ 1 (.dat (.str (S (l.map fun a=>if a=c then d else a)))))):=by
 subst hy hz
 refine aD1 ?_
 rw [bX8 (aA1 h1) (by rw [aG6];unfold lim;exact aA9 hl (cl rfl)) (by rw [aG6];simp) (beq_eq_false_iff_ne.mpr fun z=>hne (by simpa using dI1 z)),eG1]
theorem aA3 (ρ:Ro) (i:Nat) (lv:LV):(aA2 ρ i lv).lookup i=some lv:=by rw [aB9,if_pos rfl]
theorem dB1 (ds:List D) (l:List Nat) (hl:l.length≤4000) (ha:∀ c∈l,c < 128):(aD7 [] aQ0 [(0,.dat (.tup ds)),(1,.dat (.str (S l)))]).bind aC5=some (.str (S (cF9 l))):=by
 refine hid fun Gz zz=>?_
 obtain ⟨t1,t2,t3,t4,t5,t6,t7,t8,t9,t10,t11⟩:=eV4
 refine zz ?_;clear zz Gz
 unfold aQ0
 rw [aA4 (aN6 t1 t2 (by decide) hl rfl)]
 rw [aA4 (aN6 t3 aZ7 (by decide) (by simpa using hl) (aA3 _ _ _))]
 rw [aA4 (aN6 t4 aZ7 (by decide) (by simpa using hl) (aA3 _ _ _))]
 rw [aA4 (aN6 t5 aZ7 (by decide) (by simpa using hl) (aA3 _ _ _))]
 rw [aA4 (aN6 t6 aZ7 (by decide) (by simpa using hl) (aA3 _ _ _))]
 rw [aA4 (aN6 t7 aZ7 (by decide) (by simpa using hl) (aA3 _ _ _))]
 rw [aA4 (aN6 t8 aZ7 (by decide) (by simpa using hl) (aA3 _ _ _))]
 rw [aA4 (aN6 t9 aZ7 (by decide) (by simpa using hl) (aA3 _ _ _))]
 simp only [List.map_map]
 have hcl:((fun a=>if a=41 then 45 else a) ∘ (fun a=>if a=40 then 45 else a) ∘ (fun a=>if a=34 then 45 else a) ∘ (fun a=>if a=59 then 45 else a) ∘ (fun a=>if a=58 then 45 else a) ∘ (fun a=>if a=92 then 45 else a) ∘ (fun a=>if a=47 then 45 else a) ∘ (fun a:Nat=>if a=32 then 95 else a))=clean:=by
  funext a
  by_cases h1:a=32
  ·subst h1;rfl
  by_cases h2:a=47
  ·subst h2;rfl
  by_cases h3:a=92
  ·subst h3;rfl
  by_cases h4:a=58
  ·subst h4;rfl
  by_cases h5:a=59
  ·subst h5;rfl
  by_cases h6:a=34
  ·subst h6;rfl
  by_cases h7:a=40
  ·subst h7;rfl
  by_cases h8:a=41
  ·subst h8;rfl
  simp only [Function.comp_apply,clean,if_neg h1,if_neg h2,if_neg h3,if_neg h4,if_neg h5,if_neg h6,if_neg h7,if_neg h8]
  rw [if_neg (by lia)]
 rw [hcl]
 have hca:∀ c∈l.map clean,c < 128:=by
  intro c hc
  refine hid fun Gz zz=>?_
  obtain ⟨a,h,rfl⟩:=List.mem_map.mp hc
  refine zz ?_;clear zz Gz
  have:=ha a h
  unfold clean
  repeat' split
  all_goals lia
 generalize aQ:aA2 _ 1 (.dat (.str (S (l.map clean))))=ρ
 have h1:ρ.lookup 1=some (.dat (.str (S (l.map clean)))):=lkT aQ (aA3 _ _ _)
 have hu:run [] (.asg 1 (.repl (.var 1) "unknown" "")) ρ=some (.next (aA2 ρ 1 (.dat (.str (S (aE1 unk [] 0 (l.map clean))))))):=by
  refine aD1 ?_
  rw [bX8 (aA1 h1) (by rw [aG6,List.length_map];unfold lim;exact aA9 hl (cl rfl)) (by decide +kernel) (by decide +kernel),t10,t11,bH3 _ _ _ (by simp [unk])]
 rw [aA4 hu]
 have hul:=bL6 unk [] (by simp) (l.map clean) 0
 rw [List.length_map] at hul
 have hua:∀ c∈aE1 unk [] 0 (l.map clean),c < 128:=fun c hc=>by
  rcases bD8 _ _ _ _ _ hc with q | q
  ·exact hca c q
  ·simp at q
 obtain ⟨ae,e1,q1⟩:=cU0 5000 _ (aA2 ρ 1 (.dat (.str (S (aE1 unk [] 0 (l.map clean)))))) (aL3 hul (aL3 hl (cl rfl))) (aA9 hul hl) hua (aA3 _ _ _)
 have hw:run [] (.whil 5000 ddT ddB) (aA2 ρ 1 (.dat (.str (S (aE1 unk [] 0 (l.map clean))))))=some (.next ae):=by (dsimp only [run]);exact e1
 rw [aA4 hw]
 have cl:∀ (l:List Nat) (p:Bool),(col p l).length≤l.length∧∀ c∈col p l,c∈l:=by
  intro l
  induction l with
  | nil=>intro p;simp [col]
  | cons a l ih =>
   intro p
   rw [col]
   have i1:=ih true
   have i2:=ih false
   split
   ·split
    ·exact ⟨by simp;exact aO0 i1.1,fun c hc=>.tail _ (i1.2 c hc)⟩
    ·rename_i ha _
     refine ⟨by simp;exact i1.1,fun c hc=>?_⟩
     rcases List.mem_cons.mp hc with h | h
     ·rw [h,← ha];exact .head _
     ·exact .tail _ (i1.2 c h)
   ·refine ⟨by simp;exact i2.1,fun c hc=>?_⟩
    rcases List.mem_cons.mp hc with h | h
    ·rw [h];exact .head _
    ·exact .tail _ (i2.2 c h)
 have hc:=cl (aE1 unk [] 0 (l.map clean)) false
 obtain ⟨aq,e2,q2⟩:=cN1 5000 _ ae (by lia) (by lia) (fun c h=>hua c (hc.2 c h)) q1
 have hw2:run [] (.whil 5000 tdT tdB) ae=some (.next aq):=by (dsimp only [run]);exact e2
 (rw [aA4 hw2];dsimp only [aD7];dsimp only [run];rw [aA1 q2])
 rfl
end Mine
end
section
open PySem PySem.W PyProof.Rows PySem.Calls PySem.Spec
open Builtin.Str (strSub subAt occurrences partsBetween glued)
set_option autoImplicit false
set_option maxRecDepth 100000
namespace Mine
structure Wd (w:List Nat):Prop where
 ne:w≠[]
 len:w.length≤10
 ch:∀ c∈w,c < 128∧c≠45∧c≠117∧clean c=c∧Unicode.isSpace c=false
noncomputable abbrev J (l:List (List Nat)):List Nat:=bI1 [45] l
theorem aN8 (x:List Nat) (r:List (List Nat)) (h:r≠[]):J (x::r)=x++45::J r:=by
 cases r with
 | nil=>exact absurd rfl h
 | cons y r=>show x++[45]++J (y::r)=_;simp
theorem eG5 (f:Nat→Nat) (h:f 45=45):∀ l:List (List Nat),(J l).map f=J (l.map (·.map f))
 | []=>rfl
 | [x]=>rfl
 | x::y::r=>by
  rw [aN8 _ _ (by simp),List.map_append,List.map_cons,h,eG5 f h (y::r)]
  exact (aN8 (x.map f) ((y::r).map (·.map f)) (by simp)).symm
theorem bC1 (r:List Nat):∀ a:List Nat,(∀ c∈a,c≠117)→aE1 unk [] 0 (a++r)=a++aE1 unk [] 0 r
 | [],_=>rfl
 | c::a,h=>by
  have hp:unk.isPrefixOf (c::(a++r))=false:=by
   show (117 == c&&_)=false
   rw [beq_eq_false_iff_ne.mpr (fun z=>h c (.head _) z.symm),Bool.false_and]
  (rw [List.cons_append];dsimp only [aE1];rw [hp,if_neg (by decide),bC1 r a fun d hd=>h d (.tail _ hd),List.cons_append])
theorem dO2 (r:List Nat):aE1 unk [] 0 (unk++r)=aE1 unk [] 0 r:=by
 have hp:unk.isPrefixOf (117::([110,107,110,111,119,110]++r))=true:=List.isPrefixOf_iff_prefix.mpr (List.prefix_append unk r)
 show aE1 unk [] 0 (117::([110,107,110,111,119,110]++r))=_
 (dsimp only [aE1];rw [if_pos hp])
 rfl
noncomputable abbrev Seg:=Option (List Nat × Bool)
noncomputable def bC8 (b:Bool):List Nat:=if b then [45] else []
noncomputable def cX2:Seg→List Nat
 | none=>unk
 | some (w,e)=>w++bC8 e
noncomputable def dV1:Seg→List Nat
 | none=>[]
 | some (w,e)=>w++bC8 e
noncomputable def eG0:Seg→Prop
 | none=>True
 | some (w,_)=>Wd w
theorem cO1 (s:Seg) (h:eG0 s) (r:List Nat):aE1 unk [] 0 (cX2 s++r)=dV1 s++aE1 unk [] 0 r:=by
 cases s with
 | none=>exact dO2 r
 | some p =>
  obtain ⟨w,e⟩:=p
  refine bC1 r _ fun c hc=>?_
  rcases List.mem_append.mp hc with q | q
  ·exact (h.ch c q).2.2.1
  ·cases e
   ·simp [bC8] at q
   ·simp [bC8] at q;exact dO9 (bQ8 q (cl rfl))
theorem dY0:∀ segs:List Seg,(∀ s∈segs,eG0 s)→aE1 unk [] 0 (J (segs.map cX2))=J (segs.map dV1)
 | [],_=>rfl
 | [s],h=>by
  have:=cO1 s (h s (.head _)) []
  simpa [bI1,aE1] using this
 | s::t::r,h=>by
  rw [List.map_cons,aN8 (cX2 s) ((t::r).map cX2) (by simp),cO1 s (h s (.head _))]
  have hp:=bC1 (J ((t::r).map cX2)) [45] (by simp)
  rw [List.singleton_append] at hp
  rw [hp,dY0 (t::r) fun u hu=>h u (.tail _ hu)]
  exact (aN8 (dV1 s) ((t::r).map dV1) (by simp)).symm
theorem aU5 (r:List Nat):∀ (w:List Nat) (p:Bool),(∀ c∈w,c≠45)→col p (w++r)=w++col (p&&w.isEmpty) r
 | [],p,_=>by simp
 | c::w,p,h=>by
  rw [List.cons_append,col,if_neg (h c (.head _)),aU5 r w false fun d hd=>h d (.tail _ hd)]
  simp
theorem aO9 (t:List Nat):∀ (k:Nat) (p:Bool),col p (List.replicate k 45++t)=if k=0 then col p t else (if p=true then [] else [45])++col true t
 | 0,p=>by simp
 | k+1,p=>by
  rw [List.replicate_succ,List.cons_append,col,if_pos rfl,aO9 t k true]
  cases p<;>by_cases h:k=0<;>simp [h]
noncomputable def aW7 (ws:List (List Nat × Bool)) (r:Nat):List Nat:=(ws.flatMap fun p=>45::(p.1++bC8 p.2))++List.replicate r 45
theorem cC8 (r:Nat):∀ (ws:List (List Nat × Bool)) (e:Bool),(∀ p∈ws,Wd p.1)→∃ k,col false (bC8 e++aW7 ws r)=(ws.flatMap fun p=>45::p.1)++List.replicate k 45
 | [],e,_=>by
  have:bC8 e++aW7 [] r=List.replicate (r+if e then 1 else 0) 45++[]:=by
   cases e
   ·simp [bC8,aW7]
   ·simp [bC8,aW7,List.replicate_succ]
  rw [this,aO9]
  by_cases h0:(r+if e then 1 else 0)=0
  ·rw [if_pos h0];exact ⟨0,rfl⟩
  ·rw [if_neg h0];exact ⟨1,rfl⟩
 | (w,e')::ws,e,h=>by
  have hw:=h (w,e') (.head _)
  obtain ⟨k,ih⟩:=cC8 r ws e' fun p hp=>h p (.tail _ hp)
  refine ⟨k,?_⟩
  have e1:aW7 ((w,e')::ws) r=45::(w++(bC8 e'++aW7 ws r)):=by simp [aW7]
  have key:∀ q:Bool,col q (w++(bC8 e'++aW7 ws r))=w++col false (bC8 e'++aW7 ws r):=fun q=>by
   rw [aU5 _ w q fun c hc=>(hw.ch c hc).2.1]
   have:w.isEmpty=false:=List.isEmpty_eq_false_iff.mpr hw.ne
   rw [this,Bool.and_false]
  rw [e1]
  cases e
  ·rw [show bC8 false=[] from rfl,List.nil_append,col,if_pos rfl,if_neg (by decide),key,ih]
   simp
  ·rw [show bC8 true=[45] from rfl,List.singleton_append,col,if_pos rfl,if_neg (by decide),col,if_pos rfl,if_pos rfl,key,ih]
   simp
theorem dK9 (x:List Nat) (r:List (List Nat)):∀ f:Nat,J (List.replicate f []++x::r)=List.replicate f 45++J (x::r)
 | 0=>rfl
 | f+1=>by
  rw [List.replicate_succ,List.cons_append,aN8 _ _ (by simp),dK9 x r f,List.replicate_succ]
  rfl
theorem cE1:∀ (x:List Nat) (r:List (List Nat)),J (x::r)=x++r.flatMap fun y=>45::y:=fun x r=>by
 have:=cH9 [45] x r
 exact this
theorem aN3 (A:List Nat) (h:∀ c,A.getLast?=some c→c≠45):∀ k:Nat,aN4 (A++List.replicate k 45)=A
 | 0=>by
  rw [List.replicate_zero,List.append_nil]
  rcases List.eq_nil_or_concat A with rfl | ⟨m,c,rfl⟩
  ·rfl
  ·rw [List.concat_eq_append] at *
   rw [aQ5,if_neg (h c (by simp))]
 | k+1=>by
  rw [List.replicate_succ',← List.append_assoc,aQ5,if_pos rfl,aN3 A h k]
theorem dA9 (f r:Nat) (w:List Nat) (e:Bool) (ws:List (List Nat × Bool)) (hw:Wd w) (h:∀ p∈ws,Wd p.1) (l:List Nat)
  (hl:l.map clean=J ((List.replicate f none++some (w,e)::ws.map some++List.replicate r none).map cX2)) :
  cF9 l=(if f=0 then [] else [45])++J (w::ws.map (·.1)):=by
 unfold cF9
 rw [hl,dY0 _ (by
  intro s hs
  rcases List.mem_append.mp hs with q | q
  ·rcases List.mem_append.mp q with q | q
   ·rw [(List.mem_replicate.mp q).2];trivial
   ·rcases List.mem_cons.mp q with q | q
    ·rw [q];exact hw
    ·obtain ⟨p,hp,rfl⟩:=List.mem_map.mp q
     exact h p hp
  ·rw [(List.mem_replicate.mp q).2];trivial)]
 have e1:(List.replicate f none++some (w,e)::ws.map some++List.replicate r none).map dV1=List.replicate f []++(w++bC8 e)::(ws.map (fun p:List Nat × Bool=>p.1++bC8 p.2)++List.replicate r []):=by
  simp [dV1]
 rw [e1,dK9,cE1]
 have e2:(w++bC8 e++(ws.map (fun p:List Nat × Bool=>p.1++bC8 p.2)++List.replicate r []).flatMap fun y=>45::y)=w++(bC8 e++aW7 ws r):=by
  have e3:∀ r:Nat,(List.replicate r ([]:List Nat)).flatMap (fun y=>45::y)=List.replicate r 45:=by
   intro r
   induction r with
   | zero=>rfl
   | succ r ih=>rw [List.replicate_succ,List.flatMap_cons,ih,List.replicate_succ];rfl
  rw [List.flatMap_append,e3,aW7,List.flatMap_map]
  simp
 rw [e2,aO9]
 have key:∀ q:Bool,col q (w++(bC8 e++aW7 ws r))=w++col false (bC8 e++aW7 ws r):=fun q=>by
  rw [aU5 _ w q fun c hc=>(hw.ch c hc).2.1]
  have:w.isEmpty=false:=List.isEmpty_eq_false_iff.mpr hw.ne
  rw [this,Bool.and_false]
 rw [key,key]
 obtain ⟨k,hk⟩:=cC8 r ws e h
 have hlast:∀ c,(J (w::ws.map (·.1))).getLast?=some c→c≠45:=by
  have gen:∀ (ws:List (List Nat)) (w:List Nat),(∀ p∈w::ws,p≠[]∧∀ c∈p,c≠45)→∀ c,(J (w::ws)).getLast?=some c→c≠45:=by
   intro ws
   induction ws with
   | nil =>
    intro w h c hc
    exact (h w (.head _)).2 c (List.mem_of_getLast? hc)
   | cons v ws ih =>
    intro w h c hc
    rw [aN8 _ _ (by simp),← List.singleton_append,← List.append_assoc,List.getLast?_append] at hc
    have:(J (v::ws)).getLast?=some c:=by
     cases q:(J (v::ws)).getLast? with
     | none =>
      have:=List.getLast?_eq_none_iff.mp q
      have hv:=(h v (.tail _ (.head _))).1
      rw [cE1] at this
      exact absurd (List.append_eq_nil_iff.mp this).1 hv
     | some d=>rw [q] at hc; exact hc
    exact ih v (fun p hp=>h p (.tail _ hp)) c this
  refine gen _ _ fun p hp=>?_
  rcases List.mem_cons.mp hp with q | q
  ·rw [q];exact ⟨hw.ne,fun c hc=>(hw.ch c hc).2.1⟩
  ·obtain ⟨t,ht,rfl⟩:=List.mem_map.mp q
   exact ⟨(h t ht).ne,fun c hc=>((h t ht).ch c hc).2.1⟩
 have e4:w++col false (bC8 e++aW7 ws r)=J (w::ws.map (·.1))++List.replicate k 45:=by
  rw [hk,cE1,List.flatMap_map,List.append_assoc]
 rw [e4]
 have hl2:∀ A:List Nat,∀ c,(A++J (w::ws.map (·.1))).getLast?=some c→c≠45:=by
  intro A c hc
  rw [List.getLast?_append] at hc
  cases q:(J (w::ws.map (·.1))).getLast? with
  | none =>
   have:=List.getLast?_eq_none_iff.mp q
   rw [cE1] at this
   exact absurd (List.append_eq_nil_iff.mp this).1 hw.ne
  | some d=>rw [q] at hc;exact hlast c (by rw [q]; exact hc)
 split
 ·exact aN3 _ hlast k
 ·show aN4 ([45]++(J (w::ws.map (·.1))++List.replicate k 45))=_
  rw [← List.append_assoc]
  exact aN3 _ (hl2 [45]) k
end Mine
end
section
open PySem PySem.W PyProof.Rows PySem.Calls PySem.Spec
open Builtin.Str (strSub subAt occurrences partsBetween glued)
set_option autoImplicit false
set_option maxRecDepth 100000
namespace Mine
theorem dI3:∀ ys:List (List Nat),(∀ y∈ys,y.length≤100)→(J ys).length≤101*ys.length
 | [],_=>by simp [bI1]
 | [y],h=>by have:=h y (.head _);simp [bI1];exact aO0 this
 | y::z::r,h=>by
  rw [aN8 _ _ (by simp)]
  have h1:=h y (.head _)
  have h2:=dI3 (z::r) fun u hu=>h u (.tail _ hu)
  simp at h2 ⊢;lia
theorem dV0 (c:Nat):∀ ys:List (List Nat),c∈J ys→c=45∨∃ y∈ys,c∈y
 | [],h=>by simp [bI1] at h
 | [y],h=>.inr ⟨y,.head _,h⟩
 | y::z::r,h=>by
  rw [aN8 _ _ (by simp)] at h
  rcases List.mem_append.mp h with q | q
  ·exact .inr ⟨y,.head _,q⟩
  ·rcases List.mem_cons.mp q with q | q
   ·exact .inl q
   ·rcases dV0 c (z::r) q with q | ⟨u,hu,q⟩
    ·exact .inl q
    ·exact .inr ⟨u,.tail _ hu,q⟩
theorem bR2 (xs ys:List (List Nat)) (hs:xs.map (fun x=>Txt.strip (S x))=ys.map S) (hx:∀ x∈xs,0 < x.length∧x.length≤1000) (hn:xs.length≤30) (hy:∀ y∈ys,y.length≤100) (hc:∀ y∈ys,∀ c∈y,c < 128) :
  aG0 (xs.map fun x=>.str (S x))=some (.str (S (cF9 (J ys)))):=by
 have hl:ys.length=xs.length:=by have:=congrArg List.length hs;simpa using this.symm
 have e0:xs.map (fun x=>D.str (S x))=(xs.map S).map .str:=by rw [List.map_map];rfl
 dsimp only [aG0,dP8]
 rw [e0,aW8,aC1]
 have e1:(xs.map S).map Txt.strip=ys.map S:=by rw [List.map_map];exact hs
 have hj:JoinOk "-" ((xs.map S).map Txt.strip)=true:=by
  rw [e1]
  refine joinOk_of ?_
  have hsum:∀ l:List (List Nat),(∀ y∈l,y.length≤100)→((l.map S).map (·.length)).sum≤100*l.length:=by
   intro l
   induction l with
   | nil=>intro _;simp
   | cons a l ih =>
    intro h
    have h1:=h a (.head _)
    have h2:=ih fun y hy=>h y (.tail _ hy)
    simp only [List.map_cons,List.sum_cons,List.length_cons,aG6] at h2 ⊢
    lia
  have h1:=hsum ys hy
  have h2:(("-":String):Str).length=1:=by decide +kernel
  rw [h2,List.length_map]
  lia
 have hp:∀ x∈xs.map S,0 < x.length∧x.length≤lim:=fun x h=>by
  obtain ⟨y,hy',rfl⟩:=List.mem_map.mp h
  rw [aG6]
  have:=hx y hy'
  exact ⟨this.1,by dsimp only [lim];exact aA9 this.2 (cl rfl)⟩
 rw [if_pos ⟨hp,hj,by rw [List.length_map];exact aA9 hn (cl rfl)⟩]
 dsimp only [dJ6]
 rw [e1]
 have ej:Txt.join (("-":String):Str) (ys.map S)=S (J ys):=by rw [aZ7];exact dK8 [45] ys
 rw [ej]
 have h1:=dI3 ys hy
 refine dB1 _ (J ys) (by lia) fun c h=>?_
 rcases dV0 c ys h with q | ⟨y,hy',q⟩
 ·exact bQ8 q (cl rfl)
 ·exact hc y hy' c q
noncomputable abbrev aR4 (n:Nat) (g:Nat→D):D:=.lst ((List.range n).map g)
theorem bN0 {n:Nat} {g:Nat→D} {i:Int} (h0:0≤i) (h1:i.toNat < n) (hn:n≤1000):bJ8 (aR4 n g) (.int i)=some (g i.toNat):=by
 (dsimp only [bJ8];rw [if_pos ⟨h0,eX0 h1 hn rfl⟩])
 simp [h1]
theorem aG3 {n:Nat} {g:Nat→D} {k:Nat} (h1:k < n) (hn:n≤1000):bJ8 (aR4 n g) (.int (k:Int))=some (g k):=bN0 (i:=(k:Int)) (bA0 rfl) (h1) hn
theorem aF7 {Γ:List Fn} {a b:IE} {tr:Bool} {ρ:Ro} {x y d:D} (h1:ev Γ a tr ρ=some x) (h2:ev Γ b tr ρ=some y) (h3:bJ8 x y=some d):ev Γ (.idx a b) tr ρ=some d:=by
 (dsimp only [ev];simp only [h1,h2,aC1,h3])
theorem aE8 {Γ:List Fn} {op:BOp} {a b:IE} {tr:Bool} {ρ:Ro} {x y d:D} (h1:ev Γ a tr ρ=some x) (h2:ev Γ b tr ρ=some y) (h3:cV3 op x y=some d):ev Γ (.bin op a b) tr ρ=some d:=by
 (dsimp only [ev];simp only [h1,h2,aC1,h3])
theorem bK3 {Γ:List Fn} {op:COp} {a b:IE} {tr:Bool} {ρ:Ro} {x y:D} {r:Bool} (h1:ev Γ a true ρ=some x) (h2:ev Γ b true ρ=some y) (h3:bG5 op x y=some r):ev Γ (.cmp op a b) tr ρ=some (.bool r):=by
 (dsimp only [ev];simp only [h1,h2,aC1,h3,bO9])
theorem aQ8 {Γ:List Fn} {a:IE} {tr:Bool} {ρ:Ro} {ds:List D} {n:Nat} (h:ev Γ a true ρ=some (.lst ds)) (hl:ds.length=n) (hn:n≤1000):ev Γ (.len a) tr ρ=some (.int (n:Int)):=by
 subst hl
 (dsimp only [ev];simp only [h,aC1])
 (dsimp only [eB6];rw [if_pos (aL3 hn (cl rfl))])
theorem bA9 {Γ:List Fn} {t:IT} {a b:IE} {tr:Bool} {ρ:Ro} {c:Bool} {x y:D} (h:tst Γ t ρ=some c) (h1:c=true→ev Γ a tr ρ=some x) (h2:c=false→ev Γ b tr ρ=some y):ev Γ (.ite t a b) tr ρ=some (if c=true then x else y):=by
 (dsimp only [ev];simp only [h,aC1])
 cases c
 ·exact h2 rfl
 ·exact h1 rfl
theorem bP8 {Γ:List Fn} {a b c:IE} {ρ:Ro} {x y z:Int} (h1:ev Γ a true ρ=some (.int x)) (h2:ev Γ b true ρ=some (.int y)) (h3:ev Γ c true ρ=some (.int z)):tst Γ (.chain a .le b .le c) ρ=some (decide (x≤y∧y≤z)):=by
 show (ev _ a true _).bind _=_
 rw [h1];show (ev _ b true _).bind _=_
 rw [h2];show (if decide (x≤y)=true then (ev _ c true _).bind _ else _)=_
 rw [h3]
 by_cases q:x≤y
 ·rw [if_pos (decide_eq_true q)]
  show some (decide (y≤z))=_
  simp [q]
 ·rw [if_neg (by simp [q])]
  simp [q]
theorem aO4 {a b:List Nat} (h:a.length+b.length≤4000):cV3 .add (.str (S a)) (.str (S b))=some (.str (S (a++b))):=by
 show (if (S a).length+(S b).length≤lim then some (D.str (S a++S b)) else none)=_
 rw [aG6,aG6,if_pos (by dsimp only [lim];exact aA9 h (cl rfl)),dI2]
theorem cA1 {Γ:List Fn} {i x:Nat} {elt:IE} {it:It} {ifs:ITs} {ρ:Ro} {d:D} (h:ev Γ (.comp elt x it ifs) false ρ=some d):run Γ (.asgC i elt x it ifs) ρ=some (.next (aA2 ρ i (.dat d))):=by
 (dsimp only [run];rw [h]);rfl
theorem aR9 {Γ:List Fn} {i:Nat} {e:IE} {ρ:Ro} {ds:List D} {d:D} (h:ρ.lookup i=some (.own (.lst ds))) (h1:ev Γ e false ρ=some d) (hl:ds.length≤4000):run Γ (.app i e) ρ=some (.next (aA2 ρ i (.own (.lst (ds++[d]))))):=by
 (dsimp only [run];(rw [aE3 h,aC1,h1,aC1];dsimp only [eF7];rw [if_pos (by dsimp only [lim];exact aA9 hl (cl rfl))]))
 rfl
theorem aI2 {Γ:List Fn} {i:Nat} {ρ:Ro}:run Γ (.own i .nil) ρ=some (.next (aA2 ρ i (.own (.lst [])))):=by
 (dsimp only [run,evs];simp)
theorem aF3 {Γ:List Fn} {i:Nat} {ρ:Ro} {d:D} (h:ρ.lookup i=some (.own d)):run Γ (.freeze i) ρ=some (.next (aA2 ρ i (.dat d))):=by
 (dsimp only [run];rw [aE3 h]);rfl
theorem aF6 {Γ:List Fn} {e:IE} {ρ:Ro} {d:D} (h:ev Γ e false ρ=some d):run Γ (.ret e) ρ=some (.ret d):=by (dsimp only [run];rw [h]);rfl
theorem aX2 (n:Nat) (g:Nat→D):(List.range n).map g++[g n]=(List.range (n+1)).map g:=by rw [List.range_succ,List.map_append];rfl
noncomputable def nm (w:Nat→List Nat) (f l:Nat):List Nat:=(if f=0 then [] else [45])++J ((List.range' f (l+1 - f)).map w)
noncomputable def cell (w:Nat→List Nat) (f l:Nat):D:=.str (S (if f≤l then nm w f l else []))
noncomputable def aB8 (n:Nat) (w:Nat→List Nat):D:=aR4 n fun f=>aR4 n (cell w f)
noncomputable abbrev aC3 (n:Nat) (w:Nat→List Nat):D:=aR4 n fun k=>.str (S (w k))
noncomputable abbrev aK7 (n:Nat) (m:Nat→Nat):D:=aR4 n fun k=>.str (S [m k])
noncomputable def bB5 (c:Nat):Prop:=c=32∨c=47∨c=92∨c=58∨c=59∨c=34∨c=40∨c=41
theorem aF9 {c:Nat} (h:bB5 c):c < 128∧(c=32∧Unicode.isSpace c=true∨c≠32∧Unicode.isSpace c=false∧clean c=45):=by
 rcases h with rfl | rfl | rfl | rfl | rfl | rfl | rfl | rfl<;>decide +kernel
theorem bW2 (n f l:Nat) (h1:f≤l) (h2:l < n):List.range n=List.range' 0 f++(f::List.range' (f+1) (l - f))++List.range' (l+1) (n - 1 - l):=by
 rw [List.range_eq_range',← List.range'_succ,]
 have e1:List.range' 0 f++List.range' f (l - f+1)=List.range' 0 (l+1):=by
  have:=List.range'_append_1 (s:=0) (m:=f) (n:=l - f+1)
  rw [Nat.zero_add] at this
  rw [this];congr 1;exact eT7 h1
 rw [e1]
 have:=List.range'_append_1 (s:=0) (m:=l+1) (n:=n - 1 - l)
 rw [Nat.zero_add] at this
 rw [this];congr 1;exact eJ9 h2
theorem cP3 (n f l:Nat) (w:Nat→List Nat) (m:Nat→Nat) (hn:n≤30) (hw:∀ k,k < n→Wd (w k)) (hm:∀ k,k < n→bB5 (m k)) (h1:f≤l) (h2:l < n) :
  aG0 ((List.range n).map fun k=>.str (S (if f≤k∧k≤l then 32::(w k++[m k]) else unk)))=some (.str (S (nm w f l))):=by
 have key:=bR2 ((List.range n).map fun k=>if f≤k∧k≤l then 32::(w k++[m k]) else unk) ((List.range n).map fun k=>if f≤k∧k≤l then w k++(if m k=32 then [] else [m k]) else unk) ?_ ?_ (by simpa using hn) ?_ ?_
 ·rw [List.map_map] at key
  refine key.trans ?_
  congr 3
  have ew:nm w f l=(if f=0 then [] else [45])++J (w f::((List.range' (f+1) (l - f)).map fun k=>(w k,decide (m k≠32))).map (·.1)):=by
   dsimp only [nm]
   rw [show l+1 - f=(l - f)+1 from cO5 h1,List.range'_succ,List.map_map]
   rfl
  rw [ew]
  refine dA9 f (n - 1 - l) (w f) (decide (m f≠32)) _ (hw f (aL3 h1 h2)) ?_ _ ?_
  ·intro p hp
   obtain ⟨k,hk,rfl⟩:=List.mem_map.mp hp
   exact hw k (by have:=List.mem_range'_1.mp hk;exact aL3 (eK0 this.2 this.1) h2)
  ·rw [eG5 clean (by decide)]
   congr 1
   have inner:∀ k,f≤k→k≤l→(w k++(if m k=32 then [] else [m k])).map clean=cX2 (some (w k,decide (m k≠32))):=by
    intro k h3 h4
    have hwk:=hw k (aL3 h4 h2)
    have e1:(w k).map clean=w k:=by
     rw [List.map_congr_left (g:=id) fun c hc=>(hwk.ch c hc).2.2.2.1,List.map_id]
    rw [List.map_append,e1]
    rcases (aF9 (hm k (aL3 h4 h2))).2 with ⟨q,_⟩ | ⟨q,_,q3⟩
    ·simp [q,cX2,bC8]
    ·simp [q,cX2,bC8,q3]
   have eu:unk.map clean=unk:=by decide +kernel
   rw [List.map_map,bW2 n f l h1 h2]
   simp only [List.map_append,List.map_cons,List.map_map,List.map_replicate]
   have z:∀ (a b:Nat),(∀ k∈List.range' a b,¬ (f≤k∧k≤l))→(List.range' a b).map ((fun x=>x.map clean) ∘ fun k=>if f≤k∧k≤l then w k++(if m k=32 then [] else [m k]) else unk)=List.replicate b (cX2 none):=by
    intro a b h
    rw [List.map_congr_left (g:=fun _=>unk)]
    ·rw [List.map_const',List.length_range'];rfl
    ·intro k hk
     show List.map clean (if _ then _ else _)=_
     rw [if_neg (h k hk),eu]
   rw [z 0 f fun k hk=>by have:=List.mem_range'_1.mp hk;lia,z (l+1) (n - 1 - l) fun k hk=>by have:=List.mem_range'_1.mp hk;lia]
   congr 2
   congr 1
   ·show List.map clean (if _ then _ else _)=_
    rw [if_pos ⟨Nat.le_refl _,h1⟩,inner f (Nat.le_refl _) h1]
   ·refine List.map_congr_left fun k hk=>?_
    have:=List.mem_range'_1.mp hk
    show List.map clean (if _ then _ else _)=_
    rw [if_pos (aV7 (bB7 this.1) (eK0 this.2 this.1)),inner k (bB7 this.1) (eK0 this.2 this.1)]
    rfl
 ·rw [List.map_map,List.map_map]
  refine List.map_congr_left fun k hk=>?_
  have hk':=List.mem_range.mp hk
  show Txt.strip (S (if _ then _ else _))=S (if _ then _ else _)
  by_cases q:f≤k∧k≤l
  ·rw [if_pos q,if_pos q]
   have hwk:=hw k hk'
   have hd:∀ c,(w k).head?=some c→Unicode.isSpace c=false:=fun c hc=>(hwk.ch c (List.mem_of_head? hc)).2.2.2.2
   rcases (aF9 (hm k hk')).2 with ⟨q1,q2⟩ | ⟨q1,q2,_⟩
   ·rw [if_pos q1,List.append_nil]
    exact bO6 [32] (w k) [m k] (by decide +kernel) (by simpa using q2) hd (fun c hc=>(hwk.ch c (List.mem_of_getLast? hc)).2.2.2.2) hwk.ne
   ·rw [if_neg q1]
    have:=bO6 [32] (w k++[m k]) [] (by decide +kernel) (by simp) (fun c hc=>by
     cases hw':w k with
     | nil=>exact absurd hw' hwk.ne
     | cons a r=>rw [hw'] at hc hd;exact hd c (hc)) (fun c hc=>by
     rw [List.getLast?_append] at hc
     have:m k=c:=by simpa using hc
     rw [← this];exact q2) (by simp)
    rw [List.append_nil] at this
    exact this
  ·rw [if_neg q,if_neg q]
   exact bO6 [] unk [] (by simp) (by simp) (by decide +kernel) (by decide +kernel) (by decide)
 ·intro x hx
  obtain ⟨k,hk,rfl⟩:=List.mem_map.mp hx
  have hk':=List.mem_range.mp hk
  have:=(hw k hk').len
  split
  ·simp;exact aA9 this (cl rfl)
  ·simp [unk]
 ·intro y hy
  obtain ⟨k,hk,rfl⟩:=List.mem_map.mp hy
  have hk':=List.mem_range.mp hk
  have:=(hw k hk').len
  split
  ·split<;>simp<;>lia
  ·simp [unk]
 ·intro y hy c hc
  obtain ⟨k,hk,rfl⟩:=List.mem_map.mp hy
  have hk':=List.mem_range.mp hk
  split at hc
  ·rcases List.mem_append.mp hc with q | q
   ·exact ((hw k hk').ch c q).1
   ·split at q
    ·cases q
    ·rw [List.mem_singleton.mp q];exact (aF9 (hm k hk')).1
  ·revert c;decide +kernel
end Mine
end
section
open PySem PySem.W PyProof.Rows PySem.Calls PySem.Spec
set_option autoImplicit false
set_option maxRecDepth 100000
namespace Mine
theorem dJ1 {Γ:List Fn} {a b:IE} {ρ:Ro} {x y:Int} (h1:ev Γ a true ρ=some (.int x)) (h2:ev Γ b true ρ=some (.int y)):tst Γ (.cmp .le a b) ρ=some (decide (x≤y)):=aD8 h1 h2 rfl
theorem aB7 {Γ:List Fn} {i:Int} {tr:Bool} {ρ:Ro}:ev Γ (.int i) tr ρ=some (.int i):=rfl
theorem aH9 {Γ:List Fn} {x:Str} {tr:Bool} {ρ:Ro}:ev Γ (.str x) tr ρ=some (.str x):=rfl
theorem aB4 {i j:Nat} {lv:LV} {ρ:Ro} (h:(i == j)=false):List.lookup i ((j,lv)::ρ)=List.lookup i ρ:=by rw [List.lookup_cons,h]
theorem aD6 {i:Nat} {lv:LV} {ρ:Ro}:List.lookup i ((i,lv)::ρ)=some lv:=by rw [List.lookup_cons,beq_self_eq_true]
theorem aA0 {ρ:Ro} {i j:Nat} {lv:LV} (h:j≠i):(aA2 ρ i lv).lookup j=ρ.lookup j:=by rw [aB9,if_neg h]
theorem q_J {n l f x c:Nat} (hn:n≤7) (hl:l < n) (h:x≤101*(l+1 - f)) (t:Nat.ble 707 c=true):x≤c :=
 aA9 h (aA9 (Nat.mul_le_mul_left 101 (cF8 hl hn)) (cl t))
theorem lkS {ρ ao:Ro} {i j:Nat} {lv:LV} {o:Option LV} (h:ao=aA2 ρ i lv) (ne:j≠i) (e:ρ.lookup j=o):ao.lookup j=o:=h ▸ (aA0 ne).trans e
theorem lkE {ρ ao:Ro} {i:Nat} {lv:LV} (h:ao=aA2 ρ i lv):ao.lookup i=some lv:=h ▸ aA3 ρ i lv
theorem aC7 {Γ:List Fn} {i:IS} {ρ ao:Ro} (h:run Γ i ρ=some (.next ao)):aD7 Γ (.cons i .nil) ρ=some (.next ao):=by (rw [aA4 h];dsimp only [aD7])
theorem dR0:(("unknown":String):Str)=S unk:=by decide +kernel
theorem aZ6:(("":String):Str)=S []:=by decide +kernel
theorem cR7:((" ":String):Str)=S [32]:=by decide +kernel
noncomputable def cN9 (n:Nat) (w:Nat→List Nat) (f:Nat):D:=aR4 n (cell w f)
theorem aH5 {n:Nat} {Γ:List Fn} {is:ISs} {ds:List D} (h:ds.length=n):bP0 n Γ is ds=(aD7 Γ is (ro0 0 ds)).bind aC5:=if_pos h
theorem bC7 {n:Nat} {Γ ΓN:List Fn} {is:NSs} {ds:List D} (h:ds.length=n):bY0 n Γ ΓN is ds=(aC8 Γ ΓN is (ro0 0 ds)).bind aC5:=if_pos h
theorem cU7 {ρ:Ro} {ds:List D} {d:D} (h:ρ.lookup 9=some (.dat (.lst ds))) (hl:ds.length≤100) (hg:aG0 ds=some d):ev aH (.callStar 0 (.var 9)) false ρ=some d:=by
 (dsimp only [ev];rw [h])
 show (if ds.length≤100 then aG0 ds else none)=some d
 rw [if_pos hl,hg]
theorem dC6 (n:Nat) (w:Nat→List Nat) (m:Nat→Nat) (hn:n≤7) (hw:∀ k,k < n→Wd (w k)) (hm:∀ k,k < n→bB5 (m k)):aS7 [aC3 n w,aK7 n m]=some (aB8 n w):=by
 refine (aH5 (by rfl)).trans ?_
 show (aD7 aH aU1 [(0,.dat (aC3 n w)),(1,.dat (aK7 n m))]).bind aC5=_
 unfold aU1
 have e2:run aH (.asg 2 (.len (.var 0))) [(0,.dat (aC3 n w)),(1,.dat (aK7 n m))]=some (.next (aA2 [(0,.dat (aC3 n w)),(1,.dat (aK7 n m))] 2 (.dat (.int n)))) :=
  aD1 (aQ8 (aA1 rfl) (by simp) (aA9 hn (cl rfl)))
 rw [aA4 e2]
 generalize aQ:aA2 [(0,.dat (aC3 n w)),(1,.dat (aK7 n m))] 2 (.dat (.int n))=ρ
 have h0:ρ.lookup 0=some (.dat (aC3 n w)):=by rw [← aQ];rfl
 have h1:ρ.lookup 1=some (.dat (aK7 n m)):=by rw [← aQ];rfl
 have h2:ρ.lookup 2=some (.dat (.int n)):=by rw [← aQ];rfl
 clear aQ
 have e3:run aH (.asg 3 (.comp (.bin .add (.bin .add (.str " ") (.idx (.var 0) (.var 8))) (.idx (.var 1) (.var 8))) 8 (.rng1 (.var 2)) .nil)) ρ=some (.next (aA2 ρ 3 (.dat (aR4 n fun k=>.str (S (32::(w k++[m k]))))))):=by
  refine aD1 (aN5 _ (aA1 h2) (aA9 hn (cl rfl)) fun k hk=>?_)
  have hwl:=(hw k hk).len
  have a0:ev aH (.idx (.var 0) (.var 8)) false ((8,.dat (.int (k:Int)))::aP4 ρ)=some (.str (S (w k))) :=
   aF7 (aA1 ((aB4 (by decide)).trans (aC6 h0))) (aA1 aD6) (aG3 hk (aA9 hn (cl rfl)))
  have a1:ev aH (.idx (.var 1) (.var 8)) false ((8,.dat (.int (k:Int)))::aP4 ρ)=some (.str (S [m k])) :=
   aF7 (aA1 ((aB4 (by decide)).trans (aC6 h1))) (aA1 aD6) (aG3 hk (aA9 hn (cl rfl)))
  refine aE8 (aE8 (x:=.str (S [32])) (by rw [aH9,cR7]) a0 (aO4 (by simp;exact aX4 cL0 hwl rfl))) a1 (aO4 (by simp;exact aA9 hwl (cl rfl)))
 rw [aA4 e3]
 generalize aQ:aA2 ρ 3 _=ae
 have k2:ae.lookup 2=some (.dat (.int n)):=lkT aQ ((aA0 (by decide)).trans h2)
 have k3:ae.lookup 3=some (.dat (aR4 n fun k=>.str (S (32::(w k++[m k]))))):=lkT aQ (aA3 _ _ _)
 clear aQ h0 h1 h2 e3 e2
 rw [aA4 aI2]
 refine hid fun Gz zz=>?_
 obtain ⟨aq,e4,i2,i3,i4⟩:=aK6 (Γ:=aH) (i:=5) (a:=.var 2) (n:=n) (ρ:=aA2 ae 4 (.own (.lst [])))
  (body:=(.cons (.own 6 (.nil))
  (.cons (.for1 7 (.rng1 (.var 2))
   (.cons (.asgC 9 (.ite (.chain (.var 5) .le (.var 8) .le (.var 7)) (.idx (.var 3) (.var 8)) (.str "unknown")) 8 (.rng1 (.var 2)) (.nil))
   (.cons (.app 6 (.ite (.cmp .le (.var 5) (.var 7)) (.callStar 0 (.var 9)) (.str "")))
   .nil)))
  (.cons (.freeze 6)
  (.cons (.app 4 (.var 6))
  .nil)))))
  (fun f ρ=>ρ.lookup 2=some (.dat (.int n))∧ρ.lookup 3=some (.dat (aR4 n fun k=>.str (S (32::(w k++[m k])))))∧ρ.lookup 4=some (.own (.lst ((List.range f).map (cN9 n w)))))
  (aA1 ((aA0 (by decide)).trans k2)) (aA9 hn (cl rfl)) ⟨(aA0 (by decide)).trans k2,(aA0 (by decide)).trans k3,aA3 _ _ _⟩ (by
   rintro f hf ρ ⟨h2,h3,h4⟩
   rw [aA4 aI2]
   have g2:(aA2 (aA2 ρ 5 (.dat (.int (f:Int)))) 6 (.own (.lst []))).lookup 2=some (.dat (.int n)):=(aA0 (by decide)).trans ((aA0 (by decide)).trans h2)
   have g3:(aA2 (aA2 ρ 5 (.dat (.int (f:Int)))) 6 (.own (.lst []))).lookup 3=some (.dat (aR4 n fun k=>.str (S (32::(w k++[m k]))))):=(aA0 (by decide)).trans ((aA0 (by decide)).trans h3)
   have g4:(aA2 (aA2 ρ 5 (.dat (.int (f:Int)))) 6 (.own (.lst []))).lookup 4=some (.own (.lst ((List.range f).map (cN9 n w)))):=(aA0 (by decide)).trans ((aA0 (by decide)).trans h4)
   have g5:(aA2 (aA2 ρ 5 (.dat (.int (f:Int)))) 6 (.own (.lst []))).lookup 5=some (.dat (.int (f:Int))):=by exact (aA0 (by decide)).trans (aA3 _ _ _)
   refine hid fun Gz zz=>?_
   obtain ⟨aq,e4,i2,i3,i4,i5,i6⟩:=aK6 (Γ:=aH) (i:=7) (a:=.var 2) (n:=n) (ρ:=aA2 (aA2 ρ 5 (.dat (.int (f:Int)))) 6 (.own (.lst [])))
    (body:=(.cons (.asgC 9 (.ite (.chain (.var 5) .le (.var 8) .le (.var 7)) (.idx (.var 3) (.var 8)) (.str "unknown")) 8 (.rng1 (.var 2)) (.nil))
     (.cons (.app 6 (.ite (.cmp .le (.var 5) (.var 7)) (.callStar 0 (.var 9)) (.str "")))
     .nil)))
    (fun l ρ=>ρ.lookup 2=some (.dat (.int n))∧ρ.lookup 3=some (.dat (aR4 n fun k=>.str (S (32::(w k++[m k])))))∧ρ.lookup 4=some (.own (.lst ((List.range f).map (cN9 n w))))∧ρ.lookup 5=some (.dat (.int (f:Int))) ∧
     ρ.lookup 6=some (.own (.lst ((List.range l).map (cell w f)))))
    (aA1 g2) (aA9 hn (cl rfl)) ⟨g2,g3,g4,g5,aA3 _ _ _⟩ (by
     rintro l hl ρ ⟨h2,h3,h4,h5,h6⟩
     have c2:(aA2 ρ 7 (.dat (.int (l:Int)))).lookup 2=some (.dat (.int n)):=(aA0 (by decide)).trans h2
     have c3:(aA2 ρ 7 (.dat (.int (l:Int)))).lookup 3=some (.dat (aR4 n fun k=>.str (S (32::(w k++[m k]))))):=(aA0 (by decide)).trans h3
     have c5:(aA2 ρ 7 (.dat (.int (l:Int)))).lookup 5=some (.dat (.int (f:Int))):=(aA0 (by decide)).trans h5
     have c7:(aA2 ρ 7 (.dat (.int (l:Int)))).lookup 7=some (.dat (.int (l:Int))):=aA3 _ _ _
     have ec:ev aH (.comp (.ite (.chain (.var 5) .le (.var 8) .le (.var 7)) (.idx (.var 3) (.var 8)) (.str "unknown")) 8 (.rng1 (.var 2)) .nil) false (aA2 ρ 7 (.dat (.int (l:Int))))=some (aR4 n fun k=>.str (S (if f≤k∧k≤l then 32::(w k++[m k]) else unk))):=by
      refine aN5 _ (aA1 c2) (aA9 hn (cl rfl)) fun k hk=>?_
      rw [bA9 (bP8 (x:=f) (y:=k) (z:=l) (aA1 ((aB4 (by decide)).trans (aC6 c5))) (aA1 aD6) (aA1 ((aB4 (by decide)).trans (aC6 c7))))
       (fun _=>aF7 (aA1 ((aB4 (by decide)).trans (aC6 c3))) (aA1 aD6) (aG3 hk (aA9 hn (cl rfl)))) (fun _=>aH9)]
      rw [dR0]
      by_cases q:f≤k∧k≤l
      ·rw [if_pos (by simpa using q),if_pos q]
      ·rw [if_neg (by simpa using q),if_neg q]
     rw [aA4 (cA1 ec)]
     generalize aQ:aA2 (aA2 ρ 7 (.dat (.int (l:Int)))) 9 _=ae
     have d5:ae.lookup 5=some (.dat (.int (f:Int))):=lkT aQ ((aA0 (by decide)).trans c5)
     have d7:ae.lookup 7=some (.dat (.int (l:Int))):=lkT aQ ((aA0 (by decide)).trans c7)
     have d9:=aA3 (aA2 ρ 7 (.dat (.int (l:Int)))) 9 (.dat (aR4 n fun k=>.str (S (if f≤k∧k≤l then 32::(w k++[m k]) else unk))))
     rw [aQ] at d9
     have d6:ae.lookup 6=some (.own (.lst ((List.range l).map (cell w f)))):=lkT aQ ((aA0 (by decide)).trans ((aA0 (by decide)).trans h6))
     have ea:ev aH (.ite (.cmp .le (.var 5) (.var 7)) (.callStar 0 (.var 9)) (.str "")) false ae=some (cell w f l):=by
      rw [bA9 (x:=.str (S (nm w f l))) (y:=.str (S [])) (dJ1 (aA1 d5) (aA1 d7)) (fun q=>cU7 d9 (by simp;exact aA9 hn (cl rfl)) (cP3 n f l w m (aA9 hn (cl rfl)) hw hm (by simpa using q) hl)) (fun _=>by rw [aH9,aZ6])]
      unfold cell
      by_cases q:f≤l
      ·rw [if_pos (by simpa using q),if_pos q]
      ·rw [if_neg (by simpa using q),if_neg q]
     rw [aC7 (aR9 d6 ea (by simp;exact aA9 (bL8 hl) (aA9 hn (cl rfl))))]
     refine ⟨_,rfl,?_,?_,?_,?_,?_⟩
     ·rw [aA0 (by decide),← aQ,aA0 (by decide),c2]
     ·rw [aA0 (by decide),← aQ,aA0 (by decide),c3]
     ·rw [aA0 (by decide),← aQ,aA0 (by decide),aA0 (by decide),h4]
     ·exact (aA0 (by decide)).trans d5
     ·rw [aA3,aX2])
   refine zz ?_;clear zz Gz
   rw [aA4 e4,aA4 (aF3 i6)]
   have e6:ev aH (.var 6) false (aA2 aq 6 (.dat (.lst ((List.range n).map (cell w f)))))=some (cN9 n w f):=aA1 (aA3 _ _ _)
   rw [aC7 (aR9 (ds:=(List.range f).map (cN9 n w)) (d:=cN9 n w f) ((aA0 (by decide)).trans i4) e6 (by simp;exact aA9 (bL8 hf) (aA9 hn (cl rfl))))]
   refine ⟨_,rfl,?_,?_,?_⟩
   ·exact (aA0 (by decide)).trans ((aA0 (by decide)).trans i2)
   ·exact (aA0 (by decide)).trans ((aA0 (by decide)).trans i3)
   ·rw [aA3,aX2])
 refine zz ?_;clear zz Gz
 rw [aA4 e4,aA4 (aF3 i4),aE0 (aF6 (aA1 (aA3 _ _ _)))]
 rfl
end Mine
end
section
open PySem PySem.W PyProof.Rows PySem.Calls PySem.Spec
set_option autoImplicit false
set_option maxRecDepth 100000
namespace Mine
theorem dN5 (n a b:Nat) (g:Nat→D) (h1:a≤b) (h2:b≤n):((((List.range n).map g).drop a).take (b - a))=(List.range' a (b - a)).map g:=by
 rw [← List.map_drop,← List.map_take,List.range_eq_range',List.drop_range']
 have e:List.range' a (n - a)=List.range' a (b - a)++List.range' b (n - b):=by
  have:=List.range'_append_1 (s:=a) (m:=b - a) (n:=n - b)
  rw [show a+(b - a)=b from dP1 h1,show b - a+(n - b)=n - a from dY7 h1 h2] at this
  exact this.symm
 rw [show 0+a*1=a by lia,e,List.take_left' (by simp)]
theorem cB7 {Γ:List Fn} {a lo hi:IE} {tr:Bool} {ρ:Ro} {n p q:Nat} {g:Nat→D} (h1:ev Γ a tr ρ=some (aR4 n g)) (h2:ev Γ lo tr ρ=some (.int p)) (h3:ev Γ hi tr ρ=some (.int q)) (hp:p≤q) (hq:q≤n) (hn:n≤1000) :
  ev Γ (.slcFT a lo hi) tr ρ=some (.lst ((List.range' p (q - p)).map g)):=by
 (dsimp only [ev];simp only [h1,h2,h3,aC1])
 have hl:((List.range n).map g).length=n:=by simp
 (dsimp only [cZ9];rw [if_pos ⟨bA0 rfl,cX3 hp,by rw [hl];exact cX3 hq,by rw [hl];exact hn⟩])
 simp only [Int.toNat_natCast]
 rw [dN5 n p q g hp hq]
theorem dS9 {Γ:List Fn} {a:IE} {sep:Str} {tr:Bool} {ρ:Ro} {ls:List (List Nat)} (h:ev Γ a true ρ=some (.lst (ls.map fun x=>.str (S x)))) (hs:sep=S [45]) (hl:ls.length≤30) (hy:∀ y∈ls,y.length≤100):ev Γ (.join sep a) tr ρ=some (.str (S (J ls))):=by
 subst hs
 have e0:ls.map (fun x=>D.str (S x))=(ls.map S).map .str:=by rw [List.map_map];rfl
 rw [e0] at h
 (dsimp only [ev];simp only [h,aC1])
 rw [aW8,aC1]
 have hj:JoinOk (S [45]) (ls.map S)=true:=by
  refine joinOk_of ?_
  have hsum:∀ l:List (List Nat),(∀ y∈l,y.length≤100)→((l.map S).map (·.length)).sum≤100*l.length:=by
   intro l
   induction l with
   | nil=>intro _;simp
   | cons a l ih =>
    intro h
    have h1:=h a (.head _)
    have h2:=ih fun y hy=>h y (.tail _ hy)
    simp only [List.map_cons,List.sum_cons,List.length_cons,aG6] at h2 ⊢
    lia
  have h1:=hsum ls hy
  rw [aG6,List.length_map,List.length_singleton]
  lia
 rw [if_pos hj,dK8]
theorem cM8 {Γ:List Fn} {a b:IE} {ρ:Ro} {x y:Int} (h1:ev Γ a true ρ=some (.int x)) (h2:ev Γ b true ρ=some (.int y)):tst Γ (.cmp .gt a b) ρ=some (decide (y < x)):=aD8 h1 h2 rfl
theorem aL0 {Γ:List Fn} {a b:IE} {tr:Bool} {ρ:Ro} {x y:Int} (h1:ev Γ a tr ρ=some (.int x)) (h2:ev Γ b tr ρ=some (.int y)):ev Γ (.bin .add a b) tr ρ=some (.int (x+y)):=aE8 h1 h2 rfl
theorem eD9 (n:Nat) (w:Nat→List Nat) (hn:n≤7) (hw:∀ k,k < n→Wd (w k)):aI8 [aC3 n w]=some (aB8 n w):=by
 refine (aH5 (by rfl)).trans ?_
 show (aD7 aI aK2 [(0,.dat (aC3 n w))]).bind aC5=_
 unfold aK2
 rw [aA4 aI2]
 obtain ⟨aq,e4,i0,i1⟩:=aK6 (Γ:=aI) (i:=2) (a:=.len (.var 0)) (n:=n) (ρ:=aA2 [(0,.dat (aC3 n w))] 1 (.own (.lst [])))
  (body:=(.cons (.asg 3 (.ite (.cmp .gt (.var 2) (.int 0)) (.str "-") (.str "")))
  (.cons (.app 1 (.comp (.ite (.cmp .le (.var 2) (.var 4)) (.bin .add (.var 3) (.join "-" (.slcFT (.var 0) (.var 2) (.bin .add (.var 4) (.int 1))))) (.str "")) 4 (.rng1 (.len (.var 0))) (.nil)))
  .nil)))
  (fun f ρ=>ρ.lookup 0=some (.dat (aC3 n w))∧ρ.lookup 1=some (.own (.lst ((List.range f).map (cN9 n w)))))
  (aQ8 (ds:=(List.range n).map fun k=>.str (S (w k))) (aA1 rfl) (by simp) (aA9 hn (cl rfl))) (aA9 hn (cl rfl)) ⟨rfl,rfl⟩ (by
   rintro f hf ρ ⟨h0,h1⟩
   have e3:run aI (.asg 3 (.ite (.cmp .gt (.var 2) (.int 0)) (.str "-") (.str ""))) (aA2 ρ 2 (.dat (.int (f:Int))))=some (.next (aA2 (aA2 ρ 2 (.dat (.int (f:Int)))) 3 (.dat (.str (S (if f=0 then [] else [45])))))):=by
    refine aD1 ?_
    rw [bA9 (cM8 (aA1 (aA3 _ _ _)) aB7) (fun _=>aH9) (fun _=>aH9),aZ7,aZ6]
    by_cases q:f=0
    ·rw [if_pos q,if_neg (by simp;exact q)]
    ·rw [if_neg q,if_pos (by simp;exact eO3 q)]
   rw [aA4 e3]
   generalize aQ:aA2 (aA2 ρ 2 (.dat (.int (f:Int)))) 3 _=ae
   have d0:ae.lookup 0=some (.dat (aC3 n w)):=lkT aQ ((aA0 (by decide)).trans ((aA0 (by decide)).trans h0))
   have d1:ae.lookup 1=some (.own (.lst ((List.range f).map (cN9 n w)))):=lkT aQ ((aA0 (by decide)).trans ((aA0 (by decide)).trans h1))
   have d2:ae.lookup 2=some (.dat (.int (f:Int))):=lkT aQ ((aA0 (by decide)).trans (aA3 _ _ _))
   have d3:ae.lookup 3=some (.dat (.str (S (if f=0 then [] else [45])))):=lkT aQ (aA3 _ _ _)
   have er:ev aI (.comp (.ite (.cmp .le (.var 2) (.var 4)) (.bin .add (.var 3) (.join "-" (.slcFT (.var 0) (.var 2) (.bin .add (.var 4) (.int 1))))) (.str "")) 4 (.rng1 (.len (.var 0))) (.nil)) false ae=some (cN9 n w f):=by
    refine aN5 (cell w f) (aQ8 (ds:=(List.range n).map fun k=>.str (S (w k))) (aA1 d0) (by simp) (aA9 hn (cl rfl))) (aA9 hn (cl rfl)) fun l hl=>?_
    have x2:∀ tr,ev aI (.var 2) tr ((4,.dat (.int (l:Int)))::aP4 ae)=some (.int f):=fun tr=>aA1 ((aB4 (by decide)).trans (aC6 d2))
    have x4:∀ tr,ev aI (.var 4) tr ((4,.dat (.int (l:Int)))::aP4 ae)=some (.int l):=fun tr=>aA1 aD6
    rw [bA9 (x:=.str (S (nm w f l))) (y:=.str (S [])) (dJ1 (x2 true) (x4 true)) (fun q=>?_) (fun _=>by rw [aH9,aZ6])]
    ·unfold cell
     by_cases q:f≤l
     ·rw [if_pos (by simpa using q),if_pos q]
     ·rw [if_neg (by simpa using q),if_neg q]
    ·have q':f≤l:=by simpa using q
     have hlen:∀ y∈(List.range' f (l+1 - f)).map w,y.length≤100:=by
      intro y hy
      obtain ⟨k,hk,rfl⟩:=List.mem_map.mp hy
      have:=(hw k (by have:=List.mem_range'_1.mp hk;exact bW4 this.1 this.2 hl)).len
      exact aA9 this (cl rfl)
     have es:ev aI (.slcFT (.var 0) (.var 2) (.bin .add (.var 4) (.int 1))) true ((4,.dat (.int (l:Int)))::aP4 ae)=some (.lst (((List.range' f (l+1 - f)).map w).map fun x=>.str (S x))):=by
      rw [List.map_map]
      exact cB7 (n:=n) (p:=f) (q:=l+1) (g:=fun k=>.str (S (w k))) (aA1 ((aB4 (by decide)).trans (aC6 d0))) (x2 true) (aL0 (x4 true) aB7) (aO0 q') (q_s hl) (aA9 hn (cl rfl))
     have hJ:=dI3 _ hlen
     have hl2:((List.range' f (l+1 - f)).map w).length=l+1 - f:=by simp
     exact aE8 (aA1 ((aB4 (by decide)).trans (aC6 d3))) (dS9 es aZ7 (by rw [hl2];exact cF8 hl (aA9 hn (cl rfl))) hlen) (aO4 (by rw [hl2] at hJ;have e:=q_J (c:=707) hn hl hJ rfl;split<;>exact aA9 (Nat.add_le_add_left e _) (cl rfl)))
   rw [aC7 (aR9 (ds:=(List.range f).map (cN9 n w)) d1 er (by simp;exact aA9 (bL8 hf) (aA9 hn (cl rfl))))]
   refine ⟨_,rfl,?_,?_⟩
   ·exact (aA0 (by decide)).trans d0
   ·rw [aA3,aX2])
 rw [aA4 e4,aA4 (aF3 i1),aE0 (aF6 (aA1 (aA3 _ _ _)))]
 rfl
noncomputable def marksT:List Nat:=[32,47,92,58,59,34,40,41]
theorem cR8:((" /\\:;\"()":String):Str)=S marksT:=by decide +kernel
theorem cR4:∀ j:Nat,j < 8→bB5 (marksT.getD j 0)∧marksT[j]?=some (marksT.getD j 0):=by
 dsimp only [bB5]
 decide +kernel
theorem dE2 {i:Int} (h0:0≤i) (h1:i < 8):bJ8 (.str (S marksT)) (.int i)=some (.str (S [marksT.getD i.toNat 0])):=by
 (dsimp only [bJ8];rw [if_pos ⟨by lia,dR8 h1 (by decide)⟩])
 have hs:seqIndex? i (S marksT).length=some i.toNat:=by
  obtain ⟨k,rfl⟩:=Int.eq_ofNat_of_zero_le h0
  rw [aG6]
  exact (by decide:∀ k:Nat,k < 8→seqIndex? (k:Int) 8=some (k:Int).toNat) k (Int.ofNat_lt.mp h1)
 rw [hs,aC1]
 have:=(cR4 i.toNat (eP2 h0 h1)).2
 have e:(S marksT).cps[i.toNat]?=marksT[i.toNat]?:=by simp
 rw [e,this]
 rfl
theorem dD1 (n:Nat) (x:Int) (hn:n≤7):∃ m:Nat→Nat,(∀ k,k < n→bB5 (m k))∧aS8 [.int n,.int x]=some (aK7 n m):=by
 refine ⟨fun k=>marksT.getD ((x.fdiv (8 ^ k)).fmod 8).toNat 0,fun k _=>(cR4 _ ?_).1,?_⟩
 ·have h1:=Int.fmod_lt_of_pos (x.fdiv (8 ^ k)) (b:=8) (by decide)
  have h2:=Int.fmod_nonneg_of_pos (x.fdiv (8 ^ k)) (b:=8) (by decide)
  exact eV9 h1
 ·refine (aH5 (by rfl)).trans ?_
  show (aD7 bM aU2 [(0,.dat (.int n)),(1,.dat (.int x))]).bind aC5=_
  unfold aU2
  rw [aE0 (aF6 (d:=aK7 n fun k=>marksT.getD ((x.fdiv (8 ^ k)).fmod 8).toNat 0) (aN5 _ (aA1 rfl) (aA9 hn (cl rfl)) fun k hk=>?_))]
  ·rfl
  ·have h1:=Int.fmod_lt_of_pos (x.fdiv (8 ^ k)) (b:=8) (by decide)
   have h2:=Int.fmod_nonneg_of_pos (x.fdiv (8 ^ k)) (b:=8) (by decide)
   refine aF7 (x:=.str (S marksT)) (y:=.int ((x.fdiv (8 ^ k)).fmod 8)) (by rw [aH9,cR8]) ?_ (dE2 h2 h1)
   refine aE8 (x:=.int (x.fdiv (8 ^ k))) (y:=.int 8) (aE8 (x:=.int x) (y:=.int (8 ^ k)) (aA1 (by rw [aB4 (by decide)];rfl)) (aE8 (x:=.int 8) (y:=.int k) aB7 (aA1 aD6) ?_) ?_) aB7 ?_
   ·rw [cV2,if_pos ⟨bA0 rfl,i_l (cX4 (aM7 hk hn) rfl),by decide⟩]
    simp
   ·have:(8:Int) ^ k < 2 ^ 32∧0 < (8:Int) ^ k:=by
     rcases ((eT4 hn hk):k=0∨k=1∨k=2∨k=3∨k=4∨k=5∨k=6) with rfl | rfl | rfl | rfl | rfl | rfl | rfl<;>decide
    rw [bO3,if_pos ⟨this.2,this.1⟩]
   ·rw [aW3,if_neg (by decide)]
theorem dG8 (ns:List Int) (hn:ns.length≤63):∃ a b c:Int,aT0 [.lst (ns.map .int)]=some (.lst [.int a,.int b,.int c]):=by
 refine hid fun Gz zz=>?_
 obtain ⟨aq,e4,i0,a,b,c,i1⟩:=aK6 (Γ:=aY) (i:=2) (a:=.len (.var 0)) (n:=ns.length) (ρ:=aA2 [(0,.dat (.lst (ns.map .int)))] 1 (.own (.lst [.int 38,.int 4,.int 2918576])))
  (body:=(.cons (.augIdx 1 (.bin .mod (.var 2) (.int 3)) .add (.idx (.var 0) (.var 2))) .nil))
  (fun f ρ=>ρ.lookup 0=some (.dat (.lst (ns.map .int)))∧∃ a b c:Int,ρ.lookup 1=some (.own (.lst [.int a,.int b,.int c])))
  (aQ8 (ds:=ns.map .int) (aA1 rfl) (by simp) (aA9 hn (cl rfl))) (aA9 hn (cl rfl)) ⟨rfl,_,_,_,rfl⟩ (by
   rintro f hf ρ ⟨h0,a,b,c,h1⟩
   have l0:(aA2 ρ 2 (.dat (.int (f:Int)))).lookup 0=some (.dat (.lst (ns.map .int))):=(aA0 (by decide)).trans h0
   have l1:(aA2 ρ 2 (.dat (.int (f:Int)))).lookup 1=some (.own (.lst [.int a,.int b,.int c])):=(aA0 (by decide)).trans h1
   have l2:(aA2 ρ 2 (.dat (.int (f:Int)))).lookup 2=some (.dat (.int (f:Int))):=aA3 _ _ _
   have hk:ev aY (.bin .mod (.var 2) (.int 3)) true (aA2 ρ 2 (.dat (.int (f:Int))))=some (.int ((f:Int).fmod 3)):=aE8 (aA1 l2) aB7 (Eq.trans aW3 ((if_neg (by decide))))
   have hv:ev aY (.idx (.var 0) (.var 2)) false (aA2 ρ 2 (.dat (.int (f:Int))))=some (.int ns[f]):=by
    refine aF7 (aA1 l0) (aA1 l2) ?_
    (dsimp only [bJ8];rw [if_pos ⟨bA0 rfl,cX4 (aM7 hf hn) rfl⟩])
    simp [hf]
   have r1:=Int.fmod_lt_of_pos (f:Int) (b:=3) (by decide)
   have r2:=Int.fmod_nonneg_of_pos (f:Int) (b:=3) (by decide)
   have key:∃ a' b' c':Int,run aY (.augIdx 1 (.bin .mod (.var 2) (.int 3)) .add (.idx (.var 0) (.var 2))) (aA2 ρ 2 (.dat (.int (f:Int))))=some (.next (aA2 (aA2 ρ 2 (.dat (.int (f:Int)))) 1 (.own (.lst [.int a',.int b',.int c'])))):=by
    have:(f:Int).fmod 3=0∨(f:Int).fmod 3=1∨(f:Int).fmod 3=2:=eX1
    rcases this with q | q | q
    ·refine ⟨a+ns[f],b,c,?_⟩
     (dsimp only [run];rw [aE3 l1,aC1,hk,q,aC1])
     (show (ev _ (.idx (.var 0) (.var 2)) false _).bind _=_;rw [hv];rfl)
    ·refine ⟨a,b+ns[f],c,?_⟩
     (dsimp only [run];rw [aE3 l1,aC1,hk,q,aC1])
     (show (ev _ (.idx (.var 0) (.var 2)) false _).bind _=_;rw [hv];rfl)
    ·refine ⟨a,b,c+ns[f],?_⟩
     (dsimp only [run];rw [aE3 l1,aC1,hk,q,aC1])
     (show (ev _ (.idx (.var 0) (.var 2)) false _).bind _=_;rw [hv];rfl)
   obtain ⟨a',b',c',e⟩:=key
   rw [aC7 e]
   exact ⟨_,rfl,(aA0 (by decide)).trans l0,a',b',c',aA3 _ _ _⟩)
 refine zz ?_;clear zz Gz
 refine ⟨a,b,c,?_⟩
 refine (aH5 (by rfl)).trans ?_
 show (aD7 aY aU4 [(0,.dat (.lst (ns.map .int)))]).bind aC5=_
 unfold aU4
 have e1:run aY (.own 1 (.cons (.int 38) (.cons (.int 4) (.cons (.int 2918576) .nil)))) [(0,.dat (.lst (ns.map .int)))]=some (.next (aA2 [(0,.dat (.lst (ns.map .int)))] 1 (.own (.lst [.int 38,.int 4,.int 2918576])))):=rfl
 rw [aA4 e1,aA4 e4,aA4 (aF3 i1),aE0 (aF6 (aA1 (aA3 _ _ _)))]
 rfl
end Mine
end
section
open PySem PySem.W PyProof.Rows PySem.Calls PySem.Spec
set_option autoImplicit false
set_option maxRecDepth 100000
namespace Mine
noncomputable def baseL:List (List Nat):=[[97,108,112,104,97],[48,57,56],[120],[100,101,118],[112,108],[98,101,116,97],[99]]
theorem cK1:baseL.Nodup:=by decide +kernel
noncomputable def wdB (w:List Nat):Bool:=!w.isEmpty&&decide (w.length≤10)&&w.all fun c=>decide (c < 128)&&decide (c≠45)&&decide (c≠117)&&decide (clean c=c)&&!Unicode.isSpace c
theorem dW4 {w:List Nat} (h:wdB w=true):Wd w:=by
 unfold wdB at h
 simp only [Bool.and_eq_true,Bool.not_eq_true',List.isEmpty_eq_false_iff,decide_eq_true_eq,List.all_eq_true] at h
 exact ⟨h.1.1,h.1.2,fun c hc=>⟨(h.2 c hc).1.1.1.1,(h.2 c hc).1.1.1.2,(h.2 c hc).1.1.2,(h.2 c hc).1.2,(h.2 c hc).2⟩⟩
theorem cV7:∀ w∈baseL,Wd w:=by
 have h:∀ w∈baseL,wdB w=true:=by decide +kernel
 exact fun w hw=>dW4 (h w hw)
theorem dU2:∀ w∈baseL,Wd (w.map up1):=by
 have h:∀ w∈baseL,wdB (w.map up1)=true:=by decide +kernel
 exact fun w hw=>dW4 (h w hw)
noncomputable abbrev aC2 (l:List (List Nat)):List D:=l.map fun x=>.str (S x)
theorem dD4:(evs [] (.cons (.str "alpha") (.cons (.str "098") (.cons (.str "x") (.cons (.str "dev") (.cons (.str "pl") (.cons (.str "beta") (.cons (.str "c") .nil))))))) false []:Option (List D))=some (aC2 baseL):=by
 have h:(("alpha":String):Str)=S [97,108,112,104,97]∧(("098":String):Str)=S [48,57,56]∧(("x":String):Str)=S [120]∧(("dev":String):Str)=S [100,101,118]∧(("pl":String):Str)=S [112,108]∧(("beta":String):Str)=S [98,101,116,97]∧(("c":String):Str)=S [99]:=by decide +kernel
 obtain ⟨h1,h2,h3,h4,h5,h6,h7⟩:=h
 rw [h1,h2,h3,h4,h5,h6,h7]
 rfl
theorem dN7 {Γ:List Fn} {i:Nat} {es:IEs} {ρ:Ro} {ds:List D} (h:evs Γ es false ρ=some ds) (hl:ds.length≤4000):run Γ (.own i es) ρ=some (.next (aA2 ρ i (.own (.lst ds)))):=by
 (dsimp only [run];rw [h,aC1,if_pos (by unfold lim;exact aA9 hl (cl rfl))])
theorem bT0 {α β:Type} (f:α→β):∀ (l:List α) (j:Nat),(l.map f).eraseIdx j=(l.eraseIdx j).map f
 | [],_=>rfl
 | _::_,0=>rfl
 | a::l,j+1=>by rw [List.map_cons,List.eraseIdx_cons_succ,bT0 f l j,List.eraseIdx_cons_succ,List.map_cons]
theorem bK5 {α:Type}:∀ (l:List α) (j:Nat) (h:j < l.length),(l[j]::l.eraseIdx j).Perm l
 | [],_,h=>absurd h (Nat.not_lt_zero _)
 | _::_,0,_=>List.Perm.refl _
 | a::l,j+1,h=>(List.Perm.swap a _ _).trans ((bK5 l j (Nat.lt_of_succ_lt_succ h)).cons a)
theorem dA0 (n:Nat) (pick:Int) (hn:n≤7):∃ got:List (List Nat),got.length=n∧got.Nodup∧(∀ w∈got,w∈baseL)∧aS5 [.int n,.int pick]=some (.lst (aC2 got)):=by
 refine hid fun Gz zz=>?_
 obtain ⟨aq,e4,i0,pick',got,rest,j1,j2,j3,hl1,hl2,hp⟩:=aK6 (Γ:=aZ) (i:=4) (a:=.var 0) (n:=n) (ρ:=aA2 (aA2 [(0,.dat (.int n)),(1,.dat (.int pick))] 2 (.own (.lst (aC2 baseL)))) 3 (.own (.lst [])))
  (body:=(.cons (.appPop 3 2 (.bin .mod (.var 1) (.len (.var 2))))
  (.cons (.aug 1 .fdiv (.bin .add (.len (.var 2)) (.int 1)))
  .nil)))
  (fun f ρ=>ρ.lookup 0=some (.dat (.int n))∧∃ (pick:Int) (got rest:List (List Nat)),ρ.lookup 1=some (.dat (.int pick))∧ρ.lookup 2=some (.own (.lst (aC2 rest)))∧ρ.lookup 3=some (.own (.lst (aC2 got)))∧got.length=f∧rest.length=7 - f∧(got++rest).Perm baseL)
  (aA1 rfl) (aA9 hn (cl rfl)) ⟨rfl,pick,[],baseL,rfl,rfl,rfl,rfl,rfl,List.Perm.refl _⟩ (by
   rintro f hf ρ ⟨h0,pick,got,rest,h1,h2,h3,hg,hr,hp⟩
   have l0:(aA2 ρ 4 (.dat (.int (f:Int)))).lookup 0=some (.dat (.int n)):=(aA0 (by decide)).trans h0
   have l1:(aA2 ρ 4 (.dat (.int (f:Int)))).lookup 1=some (.dat (.int pick)):=(aA0 (by decide)).trans h1
   have l2:(aA2 ρ 4 (.dat (.int (f:Int)))).lookup 2=some (.own (.lst (aC2 rest))):=(aA0 (by decide)).trans h2
   have l3:(aA2 ρ 4 (.dat (.int (f:Int)))).lookup 3=some (.own (.lst (aC2 got))):=(aA0 (by decide)).trans h3
   have hrl:0 < rest.length:=eS6 hn hf hr
   have ek:ev aZ (.bin .mod (.var 1) (.len (.var 2))) true (aA2 ρ 4 (.dat (.int (f:Int))))=some (.int (pick.fmod (rest.length:Int))) :=
    aE8 (aA1 l1) (aQ8 (n:=rest.length) (bF8 l2) (by simp) (dY8 hr (cA7 (cl rfl)))) (Eq.trans aW3 ((if_neg (by lia))))
   have r1:=Int.fmod_lt_of_pos pick (b:=(rest.length:Int)) (eM1 hrl)
   have r2:=Int.fmod_nonneg_of_pos pick (b:=(rest.length:Int)) (eM1 hrl)
   generalize hk:pick.fmod (rest.length:Int)=k at ek r1 r2
   obtain ⟨j,rfl⟩:=Int.eq_ofNat_of_zero_le r2
   have hj:j < rest.length:=eP3 r1
   have e1:run aZ (.appPop 3 2 (.bin .mod (.var 1) (.len (.var 2)))) (aA2 ρ 4 (.dat (.int (f:Int))))=some (.next (aA2 (aA2 (aA2 ρ 4 (.dat (.int (f:Int)))) 2 (.own (.lst (aC2 (rest.eraseIdx j))))) 3 (.own (.lst (aC2 (got++[rest[j]])))))):=by
    (dsimp only [run];rw [aE3 l3,aC1,aE3 l2,aC1,ek,aC1,if_neg (by decide)])
    have hp:eH0 (.lst (aC2 rest)) (.int (j:Int))=some (.lst (aC2 (rest.eraseIdx j)),.str (S rest[j])):=by
     (dsimp only [eH0];rw [if_pos ⟨r2,by simpa using hj,by simp [lim];exact dY8 hr (cA7 (cl rfl))⟩])
     simp only [Int.toNat_natCast]
     rw [List.getElem?_map,List.getElem?_eq_getElem hj,bT0]
     rfl
    (rw [hp,aC1];dsimp only [eF7];rw [if_pos (by simp [lim];exact bL8 (aM7 (bQ8 hg hf) (aA9 hn (cl rfl))))])
    simp [aC2]
   rw [aA4 e1]
   generalize aQ:aA2 _ 3 (.own (.lst (aC2 (got++[rest[j]]))))=ae
   have c0:ae.lookup 0=some (.dat (.int n)):=lkT aQ ((aA0 (by decide)).trans ((aA0 (by decide)).trans l0))
   have c1:ae.lookup 1=some (.dat (.int pick)):=lkT aQ ((aA0 (by decide)).trans ((aA0 (by decide)).trans l1))
   have c2:ae.lookup 2=some (.own (.lst (aC2 (rest.eraseIdx j)))):=lkT aQ ((aA0 (by decide)).trans (aA3 _ _ _))
   have c3:ae.lookup 3=some (.own (.lst (aC2 (got++[rest[j]])))):=lkT aQ (aA3 _ _ _)
   have hre:(rest.eraseIdx j).length=rest.length - 1:=Eq.trans List.length_eraseIdx ((if_pos hj))
   have e2:run aZ (.aug 1 .fdiv (.bin .add (.len (.var 2)) (.int 1))) ae=some (.next (aA2 ae 1 (.dat (.int (pick.fdiv (((rest.length - 1:Nat):Int)+1)))))):=by
    (dsimp only [run];rw [aA1 c1,aC1])
    have el:ev aZ (.bin .add (.len (.var 2)) (.int 1)) false ae=some (.int (((rest.length - 1:Nat):Int)+1)):=aL0 (aQ8 (n:=rest.length - 1) (bF8 c2) (by rw [List.length_map,hre]) (eS5 hr rfl)) aB7
    (rw [el,aC1];dsimp only [dR4];rw [if_pos ⟨by lia,by lia⟩])
    rfl
   rw [aC7 e2]
   refine ⟨_,rfl,?_,_,got++[rest[j]],rest.eraseIdx j,aA3 _ _ _,?_,?_,?_,?_,?_⟩
   ·exact (aA0 (by decide)).trans c0
   ·exact (aA0 (by decide)).trans c2
   ·exact (aA0 (by decide)).trans c3
   ·simp [hg]
   ·exact eS4 hr hre
   ·refine List.Perm.trans ?_ hp
    rw [List.append_assoc,List.singleton_append]
    exact List.Perm.append_left got (bK5 rest j hj))
 refine zz ?_;clear zz Gz
 have nd:(got++rest).Nodup:=hp.nodup_iff.mpr cK1
 refine ⟨got,hl1,(List.nodup_append.mp nd).1,fun w hw=>hp.mem_iff.mp (List.mem_append_left _ hw),?_⟩
 refine (aH5 (by rfl)).trans ?_
 show (aD7 aZ aT9 [(0,.dat (.int n)),(1,.dat (.int pick))]).bind aC5=_
 unfold aT9
 rw [aA4 (dN7 (ds:=aC2 baseL) (by rw [← dD4];rfl) (by decide)),aA4 aI2,aA4 e4,aA4 (aF3 j3),aE0 (aF6 (aA1 (aA3 _ _ _)))]
 rfl
noncomputable abbrev aA6 (l:List (Nat × Nat)):List D:=l.map fun p=>.tup [.int (p.1:Int),.int (p.2:Int)]
theorem dF3 (n:Nat) (pick:Int) (hn:n≤7):∃ ps:List (Nat × Nat),(∀ p∈ps,p.1≤p.2∧p.2 < n)∧ps.length≤49∧aS9 [.int n,.int pick]=some (.lst (aA6 ps)):=by
 refine hid fun Gz zz=>?_
 obtain ⟨aq,e4,i0,_,_,ps,j2,hps,hln⟩:=aK6 (Γ:=aV) (i:=3) (a:=.var 0) (n:=n) (ρ:=aA2 [(0,.dat (.int n)),(1,.dat (.int pick))] 2 (.own (.lst [])))
  (body:=(.cons (.for1 4 (.rng2 (.var 3) (.var 0))
   (.cons (.ite (.cmp .eq (.bin .mod (.var 1) (.int 4)) (.int 1))
    (.cons (.app 2 (.tup (.cons (.var 3) (.cons (.var 4) .nil))))
    .nil)
    .nil)
   (.cons (.aug 1 .fdiv (.int 4))
   .nil)))
  .nil))
  (fun f ρ=>ρ.lookup 0=some (.dat (.int n))∧∃ (pick:Int),ρ.lookup 1=some (.dat (.int pick))∧∃ ps:List (Nat × Nat),ρ.lookup 2=some (.own (.lst (aA6 ps)))∧(∀ p∈ps,p.1≤p.2∧p.2 < n)∧ps.length≤f*7)
  (aA1 rfl) (aA9 hn (cl rfl)) ⟨rfl,pick,rfl,[],rfl,by simp,by simp⟩ (by
   rintro f hf ρ ⟨h0,pick,h1,ps,h2,hps,hln⟩
   refine hid fun Gz zz=>?_
   obtain ⟨aq,e4,i0,i3,pick',i1,ps',j2,hps',hln'⟩:=bF6 (Γ:=aV) (i:=4) (a:=.var 3) (b:=.var 0) (m:=f) (n:=n) (ρ:=aA2 ρ 3 (.dat (.int (f:Int))))
    (body:=(.cons (.ite (.cmp .eq (.bin .mod (.var 1) (.int 4)) (.int 1))
     (.cons (.app 2 (.tup (.cons (.var 3) (.cons (.var 4) .nil))))
     .nil)
     .nil)
    (.cons (.aug 1 .fdiv (.int 4))
    .nil)))
    (fun l ρ=>ρ.lookup 0=some (.dat (.int n))∧ρ.lookup 3=some (.dat (.int (f:Int)))∧∃ (pick:Int),ρ.lookup 1=some (.dat (.int pick))∧∃ ps:List (Nat × Nat),ρ.lookup 2=some (.own (.lst (aA6 ps)))∧(∀ p∈ps,p.1≤p.2∧p.2 < n)∧ps.length≤f*7+(l - f))
    (aA1 (aA3 _ _ _)) (aA1 ((aA0 (by decide)).trans h0)) (bL8 hf) (aA9 hn (cl rfl)) ⟨(aA0 (by decide)).trans h0,aA3 _ _ _,pick,(aA0 (by decide)).trans h1,ps,(aA0 (by decide)).trans h2,hps,dO6 hln⟩ (by
     rintro l hfl hl ρ ⟨h0,h3,pick,h1,ps,h2,hps,hln⟩
     have l0:(aA2 ρ 4 (.dat (.int (l:Int)))).lookup 0=some (.dat (.int n)):=(aA0 (by decide)).trans h0
     have l1:(aA2 ρ 4 (.dat (.int (l:Int)))).lookup 1=some (.dat (.int pick)):=(aA0 (by decide)).trans h1
     have l2:(aA2 ρ 4 (.dat (.int (l:Int)))).lookup 2=some (.own (.lst (aA6 ps))):=(aA0 (by decide)).trans h2
     have l3:(aA2 ρ 4 (.dat (.int (l:Int)))).lookup 3=some (.dat (.int (f:Int))):=(aA0 (by decide)).trans h3
     have l4:(aA2 ρ 4 (.dat (.int (l:Int)))).lookup 4=some (.dat (.int (l:Int))):=aA3 _ _ _
     have hc:∃ b,tst aV (.cmp .eq (.bin .mod (.var 1) (.int 4)) (.int 1)) (aA2 ρ 4 (.dat (.int (l:Int))))=some b:=by
      refine ⟨_,aD8 (x:=.int (pick.fmod 4)) (y:=.int 1) (aE8 (aA1 l1) aB7 (Eq.trans aW3 ((if_neg (by decide))))) aB7 rfl⟩
     refine hid fun Gz zz=>?_
     obtain ⟨b,hb⟩:=hc
     have hstep:∃ ao:Ro,run aV (.ite (.cmp .eq (.bin .mod (.var 1) (.int 4)) (.int 1)) (.cons (.app 2 (.tup (.cons (.var 3) (.cons (.var 4) .nil)))) .nil) .nil) (aA2 ρ 4 (.dat (.int (l:Int))))=some (.next ao) ∧
       ao.lookup 0=some (.dat (.int n))∧ao.lookup 3=some (.dat (.int (f:Int)))∧ao.lookup 1=some (.dat (.int pick))∧∃ ps:List (Nat × Nat),ao.lookup 2=some (.own (.lst (aA6 ps)))∧(∀ p∈ps,p.1≤p.2∧p.2 < n)∧ps.length≤f*7+(l - f)+1:=by
      cases b with
      | false =>
       (rw [aF2 hb];dsimp only [aD7])
       exact ⟨_,rfl,l0,l3,l1,ps,l2,hps,aO0 hln⟩
      | true =>
       have et:ev aV (.tup (.cons (.var 3) (.cons (.var 4) .nil))) false (aA2 ρ 4 (.dat (.int (l:Int))))=some (.tup [.int (f:Int),.int (l:Int)]):=by
        (dsimp only [ev,evs];simp only [l3,l4,aC1,bO9])
        rw [if_pos (by simp [lim])]
       rw [aI3 hb,aC7 (aR9 l2 et (by simp;exact eU2 hn hf hl hln rfl))]
       refine ⟨_,rfl,(aA0 (by decide)).trans l0,(aA0 (by decide)).trans l3,(aA0 (by decide)).trans l1,ps++[(f,l)],?_,?_,?_⟩
       ·rw [aA3];simp [aA6]
       ·intro p hp
        rcases List.mem_append.mp hp with q | q
        ·exact hps p q
        ·rw [List.mem_singleton.mp q];exact ⟨hfl,hl⟩
       ·simp;exact hln
     obtain ⟨ao,e1,c0,c3,c1,ps',c2,hps',hln'⟩:=hstep
     refine zz ?_;clear zz Gz
     rw [aA4 e1]
     have e2:run aV (.aug 1 .fdiv (.int 4)) ao=some (.next (aA2 ao 1 (.dat (.int (pick.fdiv 4))))):=by
      (dsimp only [run];(rw [aA1 c1,aC1,aB7,aC1];dsimp only [dR4];rw [if_pos (by decide)]))
      rfl
     rw [aC7 e2]
     exact ⟨_,rfl,(aA0 (by decide)).trans c0,(aA0 (by decide)).trans c3,_,aA3 _ _ _,ps',(aA0 (by decide)).trans c2,hps',eU1 hfl hln'⟩)
   refine zz ?_;clear zz Gz
   rw [aC7 e4]
   exact ⟨_,rfl,i0,pick',i1,ps',j2,hps',eU0 hn hln'⟩)
 refine zz ?_;clear zz Gz
 refine ⟨ps,hps,by lia,?_⟩
 refine (aH5 (by rfl)).trans ?_
 show (aD7 aV aU3 [(0,.dat (.int n)),(1,.dat (.int pick))]).bind aC5=_
 unfold aU3
 rw [aA4 aI2,aA4 e4,aA4 (aF3 j2),aE0 (aF6 (aA1 (aA3 _ _ _)))]
 rfl
noncomputable def cO4 (w:List Nat):Int:=if w=[48,57,56] then 100 else if w=[97,108,112,104,97] then 20 else if w=[120] then 0 else if w=[100,101,118] then 10 else if w=[112,108] then 200 else if w=[98,101,116,97] then 30 else 40
noncomputable def aK8 (w:List Nat):Key:=if w=[48,57,56] then .inl 98 else .inr (S w)
noncomputable def aS0 (w:List Nat):List D:=[.int (cO4 w),aC9 (aK8 w)]
theorem bJ1 (w:List Nat) (h:w∈baseL):aJ9 [.str (S w)]=some (.lst (aS0 w)):=by
 simp only [baseL,List.mem_cons,List.not_mem_nil,or_false] at h
 rcases h with rfl | rfl | rfl | rfl | rfl | rfl | rfl<;>kernel_rfl
end Mine
end
section
open PySem PySem.W PyProof.Rows PySem.Calls PySem.Spec
set_option autoImplicit false
set_option maxRecDepth 100000
namespace Mine
noncomputable abbrev Itm:=List Nat × Nat
noncomputable def bE0 (l:List Itm):List Nat:=l.flatMap fun p=>32::(p.1++List.replicate 7 p.2)
noncomputable def zF:List Itm→List Nat
 | []=>[]
 | [(u,m)]=>u++if m=32 then [] else List.replicate 7 m
 | (u,m)::q::r=>u++List.replicate 7 m++32::zF (q::r)
noncomputable def bZ8 (m:Nat):List Nat:=(if m=32 then List.replicate 7 95 else [45])++[95]
noncomputable def yF:List Itm→List Nat
 | []=>[]
 | [(u,_)]=>u
 | (u,m)::q::r=>u++bZ8 m++yF (q::r)
noncomputable def bO8 (p:Itm):Prop:=Wd p.1∧bB5 p.2
theorem dY5:∀ l:List Itm,l≠[]→∃ k,bE0 l=[32]++zF l++List.replicate k 32
 | [],h=>absurd rfl h
 | [(u,m)],_=>by
  by_cases q:m=32
  ·exact ⟨7,by simp [bE0,zF,q]⟩
  ·exact ⟨0,by simp [bE0,zF,q]⟩
 | (u,m)::q::r,_=>by
  obtain ⟨k,e⟩:=dY5 (q::r) (by simp)
  refine ⟨k,?_⟩
  have:bE0 ((u,m)::q::r)=32::(u++List.replicate 7 m)++bE0 (q::r):=rfl
  rw [this,e,zF]
  simp
theorem dI5:∀ l:List Itm,l≠[]→(∀ p∈l,bO8 p)→zF l≠[]∧∀ c,(zF l).head?=some c→Unicode.isSpace c=false
 | [],h,_=>absurd rfl h
 | [(u,m)],_,h=>by
  have hu:=(h _ (.head _)).1
  cases e:u with
  | nil=>exact absurd e hu.ne
  | cons a u' =>
   rw [zF]
   refine ⟨by simp,fun c hc=>?_⟩
   have:a=c:=by simpa using hc
   exact (hu.ch c (by rw [← this];show a∈u;rw [e];exact .head _)).2.2.2.2
 | (u,m)::q::r,_,h=>by
  have hu:=(h _ (.head _)).1
  cases e:u with
  | nil=>exact absurd e hu.ne
  | cons a u' =>
   rw [zF]
   refine ⟨by simp,fun c hc=>?_⟩
   have:a=c:=by simpa using hc
   exact (hu.ch c (by rw [← this];show a∈u;rw [e];exact .head _)).2.2.2.2
theorem dI4:∀ l:List Itm,l≠[]→(∀ p∈l,bO8 p)→∀ c,(zF l).getLast?=some c→Unicode.isSpace c=false
 | [],h,_=>absurd rfl h
 | [(u,m)],_,h=>by
  intro c hc
  have hu:=(h _ (.head _)).1
  rw [zF] at hc
  rcases (aF9 (h _ (.head _)).2).2 with ⟨q,_⟩ | ⟨q,q2,_⟩
  ·have q':m=32:=q
   rw [if_pos q',List.append_nil] at hc
   exact (hu.ch c (List.mem_of_getLast? hc)).2.2.2.2
  ·have q':¬ m=32:=q
   rw [if_neg q'] at hc
   have:c=m:=by
    rw [List.getLast?_append] at hc
    simpa [List.replicate,eq_comm] using hc
   rw [this];exact q2
 | (u,m)::q::r,_,h=>by
  intro c hc
  have ih:=dI4 (q::r) (by simp) fun p hp=>h p (.tail _ hp)
  have hz:=(dI5 (q::r) (by simp) fun p hp=>h p (.tail _ hp)).1
  rw [zF,List.getLast?_append] at hc
  cases e:zF (q::r) with
  | nil=>exact absurd e hz
  | cons a t =>
   rw [e,List.getLast?_cons_cons] at hc
   cases g:(a::t).getLast? with
   | none=>simp at g
   | some d =>
    rw [g] at hc
    have:d=c:=by simpa using hc
    exact ih c (by rw [e,g,this])
theorem bC9 {u:List Nat} (h:Wd u):u.map clean=u:=by
 rw [List.map_congr_left (g:=id) fun c hc=>(h.ch c hc).2.2.2.1,List.map_id]
theorem cL3:∀ l:List Itm,(∀ p∈l,bO8 p)→∀ c∈(zF l).map clean,c≠117
 | [],_=>by simp [zF]
 | [(u,m)],h=>by
  intro c hc
  have hu:=(h _ (.head _)).1
  rw [zF,List.map_append,bC9 hu] at hc
  rcases List.mem_append.mp hc with q | q
  ·exact (hu.ch c q).2.2.1
  ·rcases (aF9 (h _ (.head _)).2).2 with ⟨q1,_⟩ | ⟨q1,_,q3⟩
   ·rw [if_pos q1] at q;cases q
   ·rw [if_neg q1,List.map_replicate] at q
    have q3':clean m=45:=q3
    rw [(List.mem_replicate.mp q).2,q3'];decide
 | (u,m)::q::r,h=>by
  intro c hc
  have hu:=(h _ (.head _)).1
  have ih:=cL3 (q::r) fun p hp=>h p (.tail _ hp)
  rw [zF,List.map_append,List.map_append,bC9 hu,List.map_replicate,List.map_cons] at hc
  rcases List.mem_append.mp hc with q | q
  ·rcases List.mem_append.mp q with q | q
   ·exact (hu.ch c q).2.2.1
   ·rw [(List.mem_replicate.mp q).2]
    rcases (aF9 (h _ (.head _)).2).2 with ⟨q1,_⟩ | ⟨q1,_,q3⟩
    ·have q1':m=32:=q1
     rw [q1'];decide
    ·have q3':clean m=45:=q3
     rw [q3'];decide
  ·rcases List.mem_cons.mp q with q | q
   ·rw [q];decide
   ·exact ih c q
theorem eE3:∀ l:List Itm,l≠[]→(∀ p∈l,bO8 p)→∃ k,col false ((zF l).map clean)=yF l++List.replicate k 45
 | [],h,_=>absurd rfl h
 | [(u,m)],_,h=>by
  have hu:=(h _ (.head _)).1
  rw [zF,List.map_append,bC9 hu,aU5 _ u false fun c hc=>(hu.ch c hc).2.1,Bool.false_and]
  refine hid fun Gz zz=>?_
  rcases (aF9 (h _ (.head _)).2).2 with ⟨q1,_⟩ | ⟨q1,_,q3⟩
  ·refine zz ?_;clear zz Gz
   have q1':m=32:=q1
   exact ⟨0,by simp [yF,q1',col]⟩
  ·refine zz ?_;clear zz Gz
   have q1':¬ m=32:=q1
   have q3':clean m=45:=q3
   have e:=aO9 [] 7 false
   rw [List.append_nil] at e
   exact ⟨1,by rw [if_neg q1',List.map_replicate,q3',e,if_neg (by decide)];rfl⟩
 | (u,m)::q::r,_,h=>by
  have hu:=(h _ (.head _)).1
  obtain ⟨k,ih⟩:=eE3 (q::r) (by simp) fun p hp=>h p (.tail _ hp)
  refine ⟨k,?_⟩
  rw [zF,List.map_append,List.map_append,bC9 hu,List.map_replicate,List.map_cons,List.append_assoc,aU5 _ u false fun c hc=>(hu.ch c hc).2.1,Bool.false_and]
  rw [show clean 32=95 from rfl]
  refine hid fun Gz zz=>?_
  rcases (aF9 (h _ (.head _)).2).2 with ⟨q1,_⟩ | ⟨q1,_,q3⟩
  ·refine zz ?_;clear zz Gz
   have q1':m=32:=q1
   subst q1'
   rw [show clean 32=95 from rfl,aU5 _ (List.replicate 7 95) false (by simp),Bool.false_and,col,if_neg (by decide),ih,yF]
   simp [bZ8]
  ·refine zz ?_;clear zz Gz
   have q1':¬ m=32:=q1
   have q3':clean m=45:=q3
   rw [q3',aO9,if_neg (by decide),if_neg (by decide),col,if_neg (by decide),ih,yF,bZ8,if_neg q1']
   simp
theorem dI8:∀ l:List Itm,l≠[]→(∀ p∈l,bO8 p)→yF l≠[]∧∀ c,(yF l).getLast?=some c→c≠45
 | [],h,_=>absurd rfl h
 | [(u,m)],_,h=>⟨(h _ (.head _)).1.ne,fun c hc=>((h _ (.head _)).1.ch c (List.mem_of_getLast? hc)).2.1⟩
 | (u,m)::q::r,_,h=>by
  have ih:=dI8 (q::r) (by simp) fun p hp=>h p (.tail _ hp)
  rw [yF]
  refine ⟨fun z=>ih.1 (List.append_eq_nil_iff.mp z).2,fun c hc=>?_⟩
  rw [List.getLast?_append] at hc
  cases g:(yF (q::r)).getLast? with
  | none=>exact absurd (List.getLast?_eq_none_iff.mp g) ih.1
  | some d =>
   rw [g] at hc
   have:d=c:=by simpa using hc
   exact ih.2 c (by rw [g,this])
theorem cL4:∀ l:List Itm,(∀ p∈l,bO8 p)→∀ c∈yF l,c < 128
 | [],_=>by simp [yF]
 | [(u,m)],h=>fun c hc=>((h _ (.head _)).1.ch c hc).1
 | (u,m)::q::r,h=>by
  intro c hc
  have ih:=cL4 (q::r) fun p hp=>h p (.tail _ hp)
  rw [yF] at hc
  rcases List.mem_append.mp hc with q | q
  ·rcases List.mem_append.mp q with q | q
   ·exact ((h _ (.head _)).1.ch c q).1
   ·revert q
    unfold bZ8
    split
    ·intro q;simp at q;exact bQ8 q (cl rfl)
    ·intro q;simp at q;lia
  ·exact ih c q
theorem cI4 (l:List Itm) (hl:l≠[]) (hn:l.length≤5) (h:∀ p∈l,bO8 p):aG0 [.str (S (bE0 l))]=some (.str (S (yF l))):=by
 have hraw:∀ l:List Itm,(∀ p∈l,bO8 p)→(bE0 l).length≤18*l.length:=by
  intro l
  induction l with
  | nil=>intro _;simp [bE0]
  | cons a l ih =>
   intro h
   have h1:=(h a (.head _)).1.len
   have h2:=ih fun p hp=>h p (.tail _ hp)
   have:bE0 (a::l)=32::(a.1++List.replicate 7 a.2)++bE0 l:=rfl
   rw [this];simp;lia
 obtain ⟨k,e⟩:=dY5 l hl
 have hr:=hraw l h
 have hzl:(zF l).length+1≤(bE0 l).length:=by rw [e];simp
 obtain ⟨hz0,hz1⟩:=dI5 l hl h
 have hmem:∀ c∈bE0 l,c < 128:=by
  intro c hc
  obtain ⟨p,hp,q⟩:=List.mem_flatMap.mp hc
  rcases List.mem_cons.mp q with q | q
  ·exact bQ8 q (cl rfl)
  ·rcases List.mem_append.mp q with q | q
   ·exact ((h p hp).1.ch c q).1
   ·rw [(List.mem_replicate.mp q).2];exact (aF9 (h p hp).2).1
 have key:=bR2 [bE0 l] [zF l] (by
   show [Txt.strip (S (bE0 l))]=[S (zF l)]
   rw [e,bO6 [32] (zF l) (List.replicate k 32) (by decide +kernel) (fun c hc=>by rw [(List.mem_replicate.mp hc).2];decide +kernel) hz1 (dI4 l hl h) hz0])
  (by intro x hx;rw [List.mem_singleton.mp hx];lia) (by simp) (by intro y hy;rw [List.mem_singleton.mp hy];lia)
  (by intro y hy c hc;rw [List.mem_singleton.mp hy] at hc;exact hmem c (by rw [e];simp [hc]))
 refine key.trans ?_
 congr 3
 show cF9 (zF l)=_
 unfold cF9
 have e2:=bC1 [] ((zF l).map clean) (cL3 l h)
 rw [List.append_nil] at e2
 rw [e2]
 show aN4 (col false ((zF l).map clean++[]))=_
 rw [List.append_nil]
 obtain ⟨k,hk⟩:=eE3 l hl h
 rw [hk]
 exact aN3 _ (dI8 l hl h).2 k
theorem dI7 (u u':List Nat) (m m':Nat):∀ l:List Itm,yF (l++[(u,m),(u',m')])=yF (l++[(u,m)])++(bZ8 m++u')
 | []=>by simp [yF]
 | [(v,n)]=>by simp [yF]
 | (v,n)::(v',n')::l=>by
  have ih:=dI7 u u' m m' ((v',n')::l)
  simp only [List.cons_append] at ih ⊢
  rw [yF,ih,yF]
  simp
noncomputable def aI5 (n:Nat) (w:Nat→List Nat) (m:Nat→Nat):List Itm:=(List.range n).map fun k=>((w k).map up1,m k)
theorem cA6 (n:Nat) (w:Nat→List Nat) (m:Nat→Nat):bE0 (aI5 (n+1) w m)=bE0 (aI5 n w m)++(32::((w n).map up1++List.replicate 7 (m n))):=by
 dsimp only [bE0,aI5]
 rw [List.range_succ,List.map_append,List.flatMap_append]
 simp
theorem dI6 (n:Nat) (w:Nat→List Nat) (m:Nat→Nat):yF (aI5 (n+1) w m)=yF (aI5 n w m)++((if 0 < n then bZ8 (m (n - 1)) else [])++(w n).map up1):=by
 cases n with
 | zero=>rfl
 | succ k =>
  have e:aI5 (k+1+1) w m=aI5 k w m++[((w k).map up1,m k),((w (k+1)).map up1,m (k+1))]:=by
   unfold aI5
   rw [List.range_succ,List.range_succ]
   simp
  have e2:aI5 (k+1) w m=aI5 k w m++[((w k).map up1,m k)]:=by
   unfold aI5
   rw [List.range_succ]
   simp
  rw [e,e2,dI7,if_pos dV2]
  rfl
theorem eV1 (c:Nat):Txt.mul (S [c]) 7=S (List.replicate 7 c):=rfl
theorem bN4 {Γ:List Fn} {a:IE} {tr:Bool} {ρ:Ro} {x:List Nat} (h:ev Γ a true ρ=some (.str (S x))) (hl:x.length≤4000) (ha:∀ c∈x,c < 128):ev Γ (.upper a) tr ρ=some (.str (S (x.map up1))):=by
 (dsimp only [ev];simp only [h,aC1])
 rw [if_pos (by rw [aG6];unfold lim;exact aA9 hl (cl rfl)),dU8 ha]
theorem bL5 {Γ:List Fn} {i:Nat} {e:IE} {ρ:Ro} {a b:List Nat} (h:ρ.lookup i=some (.dat (.str (S a)))) (h1:ev Γ e false ρ=some (.str (S b))) (hl:a.length+b.length≤4000):run Γ (.aug i .add e) ρ=some (.next (aA2 ρ i (.dat (.str (S (a++b)))))):=by
 (dsimp only [run];rw [aA1 h,aC1,h1,aC1])
 show (Option.map _ (if (S a).length+(S b).length≤lim then some (D.str (S a++S b)) else none))=_
 rw [aG6,aG6,if_pos (by unfold lim;exact aA9 hl (cl rfl)),dI2]
 rfl
theorem lit_sep:(("_______":String):Str)=S (List.replicate 7 95)∧(("_":String):Str)=S [95]:=by decide +kernel
theorem dZ8 (n:Nat) (w:Nat→List Nat) (m:Nat→Nat) (hn0:0 < n) (hn:n≤5) (hw:∀ k,k < n→Wd ((w k).map up1)) (ha:∀ k,k < n→∀ c∈w k,c < 128) (hm:∀ k,k < n→bB5 (m k)):aI7 [aC3 n w,aK7 n m]=some (.bool true):=by
 have hok:∀ p∈aI5 n w m,bO8 p:=by
  intro p hp
  obtain ⟨k,hk,rfl⟩:=List.mem_map.mp hp
  exact ⟨hw k (List.mem_range.mp hk),hm k (List.mem_range.mp hk)⟩
 have hlen:∀ k,k < n→(w k).length≤10:=fun k hk=>by have:=(hw k hk).len;simpa using this
 have hrl:∀ k,k≤n→(bE0 (aI5 k w m)).length≤18*k∧(yF (aI5 k w m)).length≤18*k:=by
  intro k
  induction k with
  | zero=>intro _;simp [bE0,yF,aI5]
  | succ k ih =>
   intro hk
   have:=ih (bB7 hk)
   have:=hlen k (bQ7 hk)
   rw [cA6,dI6]
   refine ⟨by simp;lia,?_⟩
   have hs:(bZ8 (m (k - 1))).length≤8:=by unfold bZ8;split<;>simp
   split<;>simp<;>lia
 refine (aH5 (by rfl)).trans ?_
 show (aD7 aC aK1 [(0,.dat (aC3 n w)),(1,.dat (aK7 n m))]).bind aC5=_
 unfold aK1
 rw [aA4 (aD1 (d:=.str (S [])) (by rw [aH9,aZ6])),aA4 (aD1 (d:=.str (S [])) (by rw [aH9,aZ6]))]
 obtain ⟨aq,e4,i0,i1,i2,i3⟩:=aK6 (Γ:=aC) (i:=4) (a:=.len (.var 0)) (n:=n) (ρ:=aA2 (aA2 [(0,.dat (aC3 n w)),(1,.dat (aK7 n m))] 2 (.dat (.str (S [])))) 3 (.dat (.str (S []))))
  (body:=(.cons (.aug 2 .add (.bin .add (.bin .add (.str " ") (.upper (.idx (.var 0) (.var 4)))) (.bin .mul (.idx (.var 1) (.var 4)) (.int 7))))
  (.cons (.ite (.cmp .gt (.var 4) (.int 0))
   (.cons (.aug 3 .add (.bin .add (.ite (.cmp .eq (.idx (.var 1) (.bin .sub (.var 4) (.int 1))) (.str " ")) (.str "_______") (.str "-")) (.str "_")))
   .nil)
   .nil)
  (.cons (.aug 3 .add (.upper (.idx (.var 0) (.var 4))))
  .nil))))
  (fun k ρ=>ρ.lookup 0=some (.dat (aC3 n w))∧ρ.lookup 1=some (.dat (aK7 n m))∧ρ.lookup 2=some (.dat (.str (S (bE0 (aI5 k w m)))))∧ρ.lookup 3=some (.dat (.str (S (yF (aI5 k w m))))))
  (aQ8 (ds:=(List.range n).map fun k=>.str (S (w k))) (aA1 rfl) (by simp) (aA9 hn (cl rfl))) (aA9 hn (cl rfl)) ⟨rfl,rfl,rfl,rfl⟩ (by
   rintro k hk ρ ⟨h0,h1,h2,h3⟩
   have hb:=hrl k (bL8 hk)
   have hb2:=hlen k hk
   have l0:(aA2 ρ 4 (.dat (.int (k:Int)))).lookup 0=some (.dat (aC3 n w)):=(aA0 (by decide)).trans h0
   have l1:(aA2 ρ 4 (.dat (.int (k:Int)))).lookup 1=some (.dat (aK7 n m)):=(aA0 (by decide)).trans h1
   have l2:(aA2 ρ 4 (.dat (.int (k:Int)))).lookup 2=some (.dat (.str (S (bE0 (aI5 k w m))))):=(aA0 (by decide)).trans h2
   have l3:(aA2 ρ 4 (.dat (.int (k:Int)))).lookup 3=some (.dat (.str (S (yF (aI5 k w m))))):=(aA0 (by decide)).trans h3
   have l4:(aA2 ρ 4 (.dat (.int (k:Int)))).lookup 4=some (.dat (.int (k:Int))):=aA3 _ _ _
   generalize aQ:aA2 ρ 4 (.dat (.int (k:Int)))=ae at l0 l1 l2 l3 l4
   have eu:∀ (tr:Bool) (ρ:Ro),ρ.lookup 0=some (.dat (aC3 n w))→ρ.lookup 4=some (.dat (.int (k:Int)))→ev aC (.upper (.idx (.var 0) (.var 4))) tr ρ=some (.str (S ((w k).map up1))):=fun tr ρ h0 h4 =>
    bN4 (aF7 (aA1 h0) (aA1 h4) (aG3 hk (aA9 hn (cl rfl)))) (aA9 hb2 (cl rfl)) (ha k hk)
   have em:ev aC (.bin .mul (.idx (.var 1) (.var 4)) (.int 7)) false ae=some (.str (S (List.replicate 7 (m k)))):=by
    refine aE8 (x:=.str (S [m k])) (y:=.int 7) (aF7 (aA1 l1) (aA1 l4) (aG3 hk (aA9 hn (cl rfl)))) aB7 ?_
    rw [dH0,if_pos ⟨by rw [aG6];simp,by decide,by decide⟩,eV1]
   have ea:ev aC (.bin .add (.bin .add (.str " ") (.upper (.idx (.var 0) (.var 4)))) (.bin .mul (.idx (.var 1) (.var 4)) (.int 7))) false ae=some (.str (S (32::((w k).map up1++List.replicate 7 (m k))))) :=
    aE8 (aE8 (x:=.str (S [32])) (by rw [aH9,cR7]) (eu false ae l0 l4) (aO4 (by simp;exact aX4 cL0 hb2 rfl))) em (aO4 (by simp;exact aA9 hb2 (cl rfl)))
   rw [aA4 (bL5 l2 ea (by simp;lia)),← cA6]
   generalize bh:aA2 ae 2 _=aq
   have k0:aq.lookup 0=some (.dat (aC3 n w)):=lkT bh ((aA0 (by decide)).trans l0)
   have k1:aq.lookup 1=some (.dat (aK7 n m)):=lkT bh ((aA0 (by decide)).trans l1)
   have k2:aq.lookup 2=some (.dat (.str (S (bE0 (aI5 (k+1) w m))))):=lkT bh (aA3 _ _ _)
   have k3:aq.lookup 3=some (.dat (.str (S (yF (aI5 k w m))))):=lkT bh ((aA0 (by decide)).trans l3)
   have k4:aq.lookup 4=some (.dat (.int (k:Int))):=lkT bh ((aA0 (by decide)).trans l4)
   have hite:∃ aG:Ro,run aC (.ite (.cmp .gt (.var 4) (.int 0))
     (.cons (.aug 3 .add (.bin .add (.ite (.cmp .eq (.idx (.var 1) (.bin .sub (.var 4) (.int 1))) (.str " ")) (.str "_______") (.str "-")) (.str "_"))) .nil) .nil) aq=some (.next aG) ∧
     aG.lookup 0=some (.dat (aC3 n w))∧aG.lookup 1=some (.dat (aK7 n m))∧aG.lookup 2=some (.dat (.str (S (bE0 (aI5 (k+1) w m)))))∧aG.lookup 4=some (.dat (.int (k:Int))) ∧
     aG.lookup 3=some (.dat (.str (S (yF (aI5 k w m)++if 0 < k then bZ8 (m (k - 1)) else [])))):=by
    by_cases hk0:0 < k
    ·rw [aI3 (by rw [cM8 (aA1 k4) aB7];simp;exact hk0)]
     have ei:ev aC (.idx (.var 1) (.bin .sub (.var 4) (.int 1))) true aq=some (.str (S [m (k - 1)])):=by
      refine aF7 (aA1 k1) (aE8 (x:=.int k) (y:=.int 1) (d:=.int ((k - 1:Nat):Int)) (aA1 k4) aB7 ?_) (aG3 (eK1 hk) (aA9 hn (cl rfl)))
      show some (D.int _)=_
      congr 2
      exact eP7 hk0
     have hc:=(aF9 (hm (k - 1) (eK1 hk))).1
     have et:ev aC (.bin .add (.ite (.cmp .eq (.idx (.var 1) (.bin .sub (.var 4) (.int 1))) (.str " ")) (.str "_______") (.str "-")) (.str "_")) false aq=some (.str (S (bZ8 (m (k - 1))))):=by
      have e1:ev aC (.ite (.cmp .eq (.idx (.var 1) (.bin .sub (.var 4) (.int 1))) (.str " ")) (.str "_______") (.str "-")) false aq=some (.str (S (if m (k - 1)=32 then List.replicate 7 95 else [45]))):=by
       rw [bA9 (aD8 ei (y:=.str (S [32])) (by rw [aH9,cR7]) (bO0 (by simpa using hc) (by simp))) (fun _=>aH9) (fun _=>aH9),lit_sep.1,aZ7]
       by_cases q:m (k - 1)=32<;>simp [q]
      refine aE8 e1 (y:=.str (S [95])) (by rw [aH9,lit_sep.2]) ?_
      rw [aO4 (by split<;>simp)]
      rfl
     have hsep:(bZ8 (m (k - 1))).length≤8:=by unfold bZ8;split<;>simp
     rw [aC7 (bL5 k3 et (by lia))]
     refine ⟨_,rfl,(aA0 (by decide)).trans k0,(aA0 (by decide)).trans k1,(aA0 (by decide)).trans k2,(aA0 (by decide)).trans k4,?_⟩
     rw [aA3,if_pos hk0]
    ·(rw [aF2 (by rw [cM8 (aA1 k4) aB7];simp;exact cO7 (dZ1 hk0) (bQ9 dV5))];dsimp only [aD7])
     exact ⟨_,rfl,k0,k1,k2,k4,by rw [if_neg hk0,List.append_nil];exact k3⟩
   refine hid fun Gz zz=>?_
   obtain ⟨aG,e3,m0,m1,m2,m4,m3⟩:=hite
   refine zz ?_;clear zz Gz
   rw [aA4 e3]
   have hs:(if 0 < k then bZ8 (m (k - 1)) else []).length≤8:=by
    split
    ·unfold bZ8;split<;>simp
    ·simp
   rw [aC7 (bL5 m3 (eu false aG m0 m4) (by simp;lia))]
   refine ⟨_,rfl,(aA0 (by decide)).trans m0,(aA0 (by decide)).trans m1,(aA0 (by decide)).trans m2,?_⟩
   rw [aA3,dI6,List.append_assoc])
 rw [aA4 e4]
 have hy:=cL4 (aI5 n w m) hok
 have hne:aI5 n w m≠[]:=by
  intro z
  have:=congrArg List.length z
  simp [aI5] at this
  lia
 have ec:ev aC (.call 0 (.cons (.var 2) .nil)) true aq=some (.str (S (yF (aI5 n w m)))):=by
  (dsimp only [ev,evs];rw [i2])
  exact cI4 (aI5 n w m) hne (by simp [aI5];exact hn) hok
 rw [aE0 (aF6 (bK3 ec (aA1 i3) (bO0 hy hy)))]
 simp [aC5]
end Mine
end
section
open PySem PySem.W PyProof.Rows PySem.Calls PySem.Spec
open Builtin.Str (strSub subAt occurrences partsBetween glued)
set_option autoImplicit false
set_option maxRecDepth 100000
namespace Mine
theorem bE4 (c:Nat):∀ (l:List Nat) (i:Nat),(bM5 [c] i 0 l=[]∧l.takeWhile (· != c)=l)∨∃ r,bM5 [c] i 0 l=(i+(l.takeWhile (· != c)).length)::r
 | [],i=>.inl ⟨rfl,rfl⟩
 | a::l,i=>by
  (dsimp only [bM5];rw [cP2])
  by_cases h:c=a
  ·rw [if_pos (beq_iff_eq.mpr h)]
   right
   refine ⟨bM5 [c] (i+1) ([c].length - 1) l,?_⟩
   rw [List.takeWhile_cons,if_neg (by simp [h])]
   rfl
  ·rw [if_neg (fun z=>h (beq_iff_eq.mp z)),List.takeWhile_cons,if_pos (by simp;exact fun z=>h z.symm)]
   rcases bE4 c l (i+1) with ⟨h1,h2⟩ | ⟨r,h1⟩
   ·exact .inl ⟨h1,(congrArg _ h2)⟩
   ·exact .inr ⟨r,by rw [h1,List.length_cons];congr 1;lia⟩
theorem cF5 (t:List Nat):∃ r,Txt.split (S t) (S [47])=S (t.takeWhile (· != 47))::r:=by
 have hk:(Builtin.Str.strKind (S t) < Builtin.Str.strKind (S [47]))=False:=by
  have h1:Builtin.Str.strKind (S [47])=1:=by decide +kernel
  have h2:1≤Builtin.Str.strKind (S t):=by
   unfold Builtin.Str.strKind
   repeat' split
   all_goals decide
  rw [h1]
  exact eq_false (bQ9 h2)
 unfold Txt.split
 rw [eA3 t [47] (by simp)]
 split
 ·rename_i h
  simp only [hk,decide_false,Bool.or_false,decide_eq_true_eq,aG6] at h
  have:t=[]:=by
   cases t with
   | nil=>rfl
   | cons a l=>simp at h
  subst this
  exact ⟨[],rfl⟩
 ·split
  ·rename_i h
   rcases bE4 47 t 0 with ⟨_,h2⟩ | ⟨r,h1⟩
   ·exact ⟨[],by rw [h2]⟩
   ·rw [h1] at h;exact noB h
  ·rename_i h
   rcases bE4 47 t 0 with ⟨h1,_⟩ | ⟨r,h1⟩
   ·rw [h1] at h;exact absurd rfl h
   ·rw [StrLaws.partsBetween_eq,h1,Nat.zero_add]
    refine ⟨StrLaws.partsFrom (S t) (S [47]).length ((t.takeWhile (· != 47)).length+(S [47]).length) r,?_⟩
    show strSub (S t) 0 (t.takeWhile (· != 47)).length::_=_
    congr 1
    apply Str.ext'
    apply Array.toList_inj.mp
    rw [StrLaws.strSub_toList]
    show List.take _ (List.drop 0 t)=t.takeWhile _
    have:t.takeWhile (· != 47) <+: t:=List.takeWhile_prefix _
    rw [List.drop_zero,Nat.sub_zero]
    exact (List.prefix_iff_eq_take.mp this).symm
theorem bM7:(("*":String):Str)=S [42]:=by decide +kernel
theorem bS2:(("/":String):Str)=S [47]:=by decide +kernel
theorem dR7 (x:List Nat) (ag:List (List Nat)) (hx:∀ c∈x,c < 128) (ha:∀ a∈ag,∀ c∈a,c < 128):bG5 .in_ (.str (S x)) (.lst (aC2 ag))=some (ag.any fun a=>decide (a=x)):=by
 show (if PyData.strOk (S x)&&aF4 3 (aC2 ag) then some ((pds (aC2 ag)).any fun y=>PyData.eqv y (.str (S x))) else none)=_
 have e1:aF4 3 (aC2 ag)=true:=by
  induction ag with
  | nil=>rfl
  | cons a l ih =>
   (rw [aC2,List.map_cons];dsimp only [aF4];rw [Bool.and_eq_true])
   exact ⟨by (dsimp only [aB0]);exact aN7 (ha a (.head _)),ih fun b hb=>ha b (.tail _ hb)⟩
 rw [aN7 hx,e1,if_pos (by decide)]
 congr 1
 clear e1 ha
 induction ag with
 | nil=>rfl
 | cons a l ih =>
  (rw [aC2,List.map_cons];dsimp only [pds];rw [List.any_cons,List.any_cons])
  have ih':((pds (l.map fun x=>D.str (S x))).any fun y=>PyData.eqv y (.str (S x)))=l.any fun a=>decide (a=x):=ih
  rw [ih']
  congr 1
  show PyData.eqv (.str (S a)) (.str (S x))=_
  rw [PyData.eqv,Bool.eq_iff_iff,beq_iff_eq,decide_eq_true_eq]
  exact ⟨dI1,fun z=>(congrArg _ z)⟩
theorem cJ2 {a b:List Nat} (ha:∀ c∈a,c < 128) (hb:∀ c∈b,c < 128):bG5 .ne (.str (S a)) (.str (S b))=some (decide (a≠b)):=by
 show (if aB0 4 (.str (S a))&&aB0 4 (.str (S b)) then some (!PyData.eqv (pd (.str (S a))) (pd (.str (S b)))) else neX (.str (S a)) (.str (S b)))=_
 have e1:aB0 4 (.str (S a))=true:=by (dsimp only [aB0]);exact aN7 ha
 have e2:aB0 4 (.str (S b))=true:=by (dsimp only [aB0]);exact aN7 hb
 rw [e1,e2,if_pos (by decide)]
 congr 1
 (dsimp only [pd])
 rw [PyData.eqv]
 by_cases h:a=b
 ·subst h;simp
 ·have:(S a == S b)=false:=beq_eq_false_iff_ne.mpr fun z=>h (dI1 z)
  rw [this];simp [h]
theorem dH9 (ag:List (List Nat)) (ha:∀ a∈ag,∀ c∈a,c < 128):aG4 [.ent (aC2 ag),.none]=some (.bool (ag.any fun a=>decide (a=[42]))):=by
 refine (aH5 (by rfl)).trans ?_
 show (aD7 ay aG8 [(0,.dat (.ent (aC2 ag))),(1,.dat .none)]).bind aC5=_
 unfold aG8
 have ht:tst ay (.cmp .is_ (.var 1) .none) [(0,.dat (.ent (aC2 ag))),(1,.dat .none)]=some true:=rfl
 have ea:ev ay (.agents (.var 0)) true [(0,.dat (.ent (aC2 ag))),(1,.dat .none)]=some (.lst (aC2 ag)):=rfl
 have e1:run ay (.ite (.cmp .is_ (.var 1) (.none)) (.cons (.ret (.cmp .in_ (.str "*") (.agents (.var 0)))) .nil) .nil) [(0,.dat (.ent (aC2 ag))),(1,.dat .none)]=some (.ret (.bool (ag.any fun a=>decide (a=[42])))):=by
  rw [aI3 ht,aE0 (aF6 (bK3 (x:=.str (S [42])) (by rw [aH9,bM7]) ea (dR7 [42] ag (by simp) ha)))]
 rw [aE0 e1]
 rfl
theorem cB8 {Γ:List Fn} {a:IE} {tr:Bool} {ρ:Ro} {x:List Nat} (h:ev Γ a true ρ=some (.str (S x))) (hl:x.length≤4000) (ha:∀ c∈x,c < 128):ev Γ (.lower a) tr ρ=some (.str (S (x.map lo1))):=by
 (dsimp only [ev];simp only [h,aC1])
 rw [if_pos (by rw [aG6];unfold lim;exact aA9 hl (cl rfl)),dU9 ha]
theorem eH2 {x:List Nat} (h:∀ c∈x,c < 128):∀ c∈x.map lo1,c < 128:=by
 intro c hc
 obtain ⟨a,ha,rfl⟩:=List.mem_map.mp hc
 have:=h a ha
 unfold lo1
 split<;>lia
noncomputable def hits (u:List Nat) (a:List Nat):Bool:=decide (a≠[42])&&aZ9 (S (a.map lo1)) (S u)
theorem dU7 (ag:List (List Nat)) (t:List Nat) (ha:∀ a∈ag,(∀ c∈a,c < 128)∧a.length≤4000) (ht:∀ c∈t,c < 128) (hl:t.length≤4000) :
  aG4 [.ent (aC2 ag),.str (S t)]=some (.bool (ag.any (hits ((t.takeWhile (· != 47)).map lo1)))):=by
 have htw:∀ c∈t.takeWhile (· != 47),c < 128:=fun c hc=>ht c ((List.takeWhile_prefix _).sublist.mem hc)
 have htl:(t.takeWhile (· != 47)).length≤4000:=aA9 (List.takeWhile_prefix _).length_le hl
 refine (aH5 (by rfl)).trans ?_
 show (aD7 ay aG8 [(0,.dat (.ent (aC2 ag))),(1,.dat (.str (S t)))]).bind aC5=_
 unfold aG8
 have ht0:tst ay (.cmp .is_ (.var 1) .none) [(0,.dat (.ent (aC2 ag))),(1,.dat (.str (S t)))]=some false:=rfl
 have e1:run ay (.ite (.cmp .is_ (.var 1) (.none)) (.cons (.ret (.cmp .in_ (.str "*") (.agents (.var 0)))) .nil) .nil) [(0,.dat (.ent (aC2 ag))),(1,.dat (.str (S t)))]=some (.next [(0,.dat (.ent (aC2 ag))),(1,.dat (.str (S t)))]):=by
  (rw [aF2 ht0];dsimp only [aD7])
 rw [aA4 e1]
 obtain ⟨r,hr⟩:=cF5 t
 have e2:ev ay (.lower (.idx (.splitS (.var 1) "/") (.int 0))) false [(0,.dat (.ent (aC2 ag))),(1,.dat (.str (S t)))]=some (.str (S ((t.takeWhile (· != 47)).map lo1))):=by
  refine cB8 (aF7 (x:=.lst ((S (t.takeWhile (· != 47))::r).map .str)) (y:=.int 0) ?_ aB7 ?_) htl htw
  ·show (ev _ (.var 1) true _).bind _=_
   rw [aA1 (d:=.str (S t)) rfl,aC1]
   show (if _ then _ else _)=_
   rw [if_pos ⟨by rw [aG6];unfold lim;exact aA9 hl (cl rfl),by decide +kernel⟩,bS2,hr]
  ·(dsimp only [bJ8];rw [if_pos (by decide)])
   rfl
 rw [aA4 (aD1 e2)]
 generalize aQ:aA2 [(0,.dat (.ent (aC2 ag))),(1,.dat (.str (S t)))] 1 (.dat (.str (S ((t.takeWhile (· != 47)).map lo1))))=ρ
 have h0:ρ.lookup 0=some (.dat (.ent (aC2 ag))):=by rw [← aQ];rfl
 have h1:ρ.lookup 1=some (.dat (.str (S ((t.takeWhile (· != 47)).map lo1)))):=by rw [← aQ];rfl
 clear aQ
 generalize hu:(t.takeWhile (· != 47)).map lo1=u at h1
 have loop:∀ (ag:List (List Nat)) (ρ:Ro),(∀ a∈ag,(∀ c∈a,c < 128)∧a.length≤4000)→ρ.lookup 1=some (.dat (.str (S u))) →
   ∃ ao:Ro,aH0 (fun d ρ=>aD7 ay (.cons (.ite (.cmp .ne (.var 2) (.str "*")) (.cons (.asg 2 (.lower (.var 2))) (.cons (.ite (.cmp .in_ (.var 2) (.var 1)) (.cons (.ret (.bool true)) .nil) .nil) .nil)) .nil) .nil) (aD2 [(2,d)] ρ)) (aC2 ag) ρ=some (if ag.any (hits u)=true then .ret (.bool true) else .next ao):=by
  intro ag
  induction ag with
  | nil=>intro ρ _ _;exact ⟨ρ,rfl⟩
  | cons a ag ih =>
   intro ρ ha h1
   obtain ⟨ha1,ha2⟩:=ha a (.head _)
   have q2:(aA2 ρ 2 (.dat (.str (S a)))).lookup 2=some (.dat (.str (S a))):=aA3 _ _ _
   have q1:(aA2 ρ 2 (.dat (.str (S a)))).lookup 1=some (.dat (.str (S u))):=(aA0 (by decide)).trans h1
   have hc:tst ay (.cmp .ne (.var 2) (.str "*")) (aA2 ρ 2 (.dat (.str (S a))))=some (decide (a≠[42])) :=
    aD8 (aA1 q2) (y:=.str (S [42])) (by rw [aH9,bM7]) (cJ2 ha1 (by simp))
   have step:∃ ao:Ro,ao.lookup 1=some (.dat (.str (S u)))∧aD7 ay (.cons (.ite (.cmp .ne (.var 2) (.str "*")) (.cons (.asg 2 (.lower (.var 2))) (.cons (.ite (.cmp .in_ (.var 2) (.var 1)) (.cons (.ret (.bool true)) .nil) .nil) .nil)) .nil) .nil) (aD2 [(2,.str (S a))] ρ)=some (if hits u a=true then .ret (.bool true) else .next ao):=by
    show ∃ ao:Ro,_∧aD7 _ _ (aA2 ρ 2 (.dat (.str (S a))))=_
    unfold hits
    by_cases h42:a=[42]
    ·refine ⟨_,q1,?_⟩
     (dsimp only [aD7];rw [aF2 (by rw [hc];simp [h42])])
     (dsimp only [aD7];simp [h42])
    ·have el:=cB8 (Γ:=ay) (tr:=false) (aA1 q2) ha2 ha1
     have p2:(aA2 (aA2 ρ 2 (.dat (.str (S a)))) 2 (.dat (.str (S (a.map lo1))))).lookup 2=some (.dat (.str (S (a.map lo1)))):=aA3 _ _ _
     have p1:(aA2 (aA2 ρ 2 (.dat (.str (S a)))) 2 (.dat (.str (S (a.map lo1))))).lookup 1=some (.dat (.str (S u))):=(aA0 (by decide)).trans q1
     have hi:tst ay (.cmp .in_ (.var 2) (.var 1)) (aA2 (aA2 ρ 2 (.dat (.str (S a)))) 2 (.dat (.str (S (a.map lo1)))))=some (aZ9 (S (a.map lo1)) (S u)):=aD8 (aA1 p2) (aA1 p1) rfl
     refine ⟨_,p1,?_⟩
     (dsimp only [aD7];rw [aI3 (by rw [hc];simp [h42]),aA4 (aD1 el)];dsimp only [aD7])
     cases hb:aZ9 (S (a.map lo1)) (S u) with
     | true =>
      rw [aI3 (by rw [hi,hb])]
      (dsimp only [aD7,run,ev];simp [h42])
     | false =>
      rw [aF2 (by rw [hi,hb])]
      (dsimp only [aD7];simp)
   obtain ⟨ao,p1,e⟩:=step
   obtain ⟨bF,e'⟩:=ih ao (fun b hb=>ha b (.tail _ hb)) p1
   refine ⟨bF,?_⟩
   (rw [aC2,List.map_cons];dsimp only [aH0];rw [e,aC1,List.any_cons])
   cases hits u a with
   | true=>rfl
   | false=>exact e'
 obtain ⟨ao,e⟩:=loop ag ρ ha h1
 have hf:run ay (.for1 2 (.seq (.agents (.var 0))) (.cons (.ite (.cmp .ne (.var 2) (.str "*")) (.cons (.asg 2 (.lower (.var 2))) (.cons (.ite (.cmp .in_ (.var 2) (.var 1)) (.cons (.ret (.bool true)) .nil) .nil) .nil)) .nil) .nil)) ρ=some (if ag.any (hits u)=true then .ret (.bool true) else .next ao):=by
  (dsimp only [run];rw [aX0 (ds:=aC2 ag) (by (dsimp only [ev];simp [h0])),aC1])
  exact e
 cases hb:ag.any (hits u) with
 | true =>
  rw [hb,if_pos rfl] at hf
  rw [aE0 hf]
  rfl
 | false =>
  rw [hb,if_neg (by decide)] at hf
  rw [aA4 hf,aE0 (aF6 (d:=.bool false) rfl)]
  rfl
end Mine
end
section
open PySem PySem.W PyProof.Rows PySem.Calls PySem.Spec
set_option autoImplicit false
set_option maxRecDepth 100000
namespace Mine
theorem bF2 {x u v:List Nat} {c:Nat} (hc:c∉x) (h:x <:+: u++c::v):x <:+: u∨x <:+: v:=by
 obtain ⟨s,t,e⟩:=h
 rcases List.append_eq_append_iff.mp e with ⟨a,e1,e2⟩ | ⟨a,e1,e2⟩
 ·exact .inl ⟨s,a,e1.symm⟩
 ·cases a with
  | nil =>
   rw [List.append_nil] at e1
   exact .inl ⟨s,[],by rw [List.append_nil];exact e1⟩
  | cons d a =>
   have hd:c=d∧v=a++t:=by simpa using e2
   obtain ⟨rfl,rfl⟩:=hd
   rcases List.append_eq_append_iff.mp e1 with ⟨b,e3,e4⟩ | ⟨b,e3,e4⟩
   ·rw [e4] at hc;exact absurd (List.mem_append_right _ (.head _)) hc
   ·cases b with
    | nil =>
     rw [List.nil_append] at e4
     rw [← e4] at hc;exact absurd (.head _) hc
    | cons d b =>
     have hd:c=d∧a=b++x:=by simpa using e4
     obtain ⟨rfl,rfl⟩:=hd
     exact .inr ⟨b,t,rfl⟩
theorem eC0 {x:List Nat} (hx:x≠[]) (h45:45∉x):∀ ws:List (List Nat),x <:+: J ws→∃ y∈ws,x <:+: y
 | [],h=>absurd (List.eq_nil_of_infix_nil h) hx
 | [y],h=>⟨y,.head _,h⟩
 | y::z::r,h=>by
  rw [aN8 _ _ (by simp)] at h
  rcases bF2 h45 h with q | q
  ·exact ⟨y,.head _,q⟩
  ·obtain ⟨u,hu,q⟩:=eC0 hx h45 (z::r) q
   exact ⟨u,.tail _ hu,q⟩
theorem bS0 {x:List Nat}:∀ ws:List (List Nat),x∈ws→x <:+: J ws
 | [y],h=>by rw [List.mem_singleton.mp h];exact List.infix_refl _
 | y::z::r,h=>by
  rw [aN8 _ _ (by simp)]
  rcases List.mem_cons.mp h with q | q
  ·rw [q];exact (List.prefix_append _ _).isInfix
  ·exact (bS0 (z::r) q).trans ((List.suffix_cons _ _).trans (List.suffix_append _ _)).isInfix
theorem bO7:∀ (A B:List (List Nat)),A≠[]→B≠[]→J (A++B)=J A++45::J B
 | [],_,h,_=>absurd rfl h
 | [a],B,_,hb=>by rw [List.singleton_append,aN8 _ _ hb];rfl
 | a::b::A,B,_,hb=>by
  rw [List.cons_append,aN8 _ _ (by simp),bO7 (b::A) B (by simp) hb,aN8 a (b::A) (by simp)]
  simp
theorem eG4 (A B:List (List Nat)) (h:A≠[]):J A <+: J (A++B):=by
 cases B with
 | nil=>rw [List.append_nil];exact List.prefix_refl _
 | cons b B=>rw [bO7 A (b::B) h (by simp)];exact List.prefix_append _ _
noncomputable def star (b:Bool):List Nat:=if b then [42] else []
structure Ws (n:Nat) (w:Nat→List Nat):Prop where
 wd:∀ k,k < n→Wd (w k)
 st:∀ k,k < n→∀ c∈w k,c≠42∧c≠47∧lo1 c=c∧lo1 (up1 c)=c∧up1 c≠47∧up1 c < 128
 inj:∀ i j,i < n→j < n→w i <:+: w j→i=j
theorem eA7 {n:Nat} {w:Nat→List Nat} (W:Ws n w) {a b f l:Nat} (s:Bool) (hab:a≤b) (hb:b < n) (hfl:f≤l) (hl:l < n):nm w a b <:+: nm w f l++star s↔f≤a∧b≤l:=by
 have rng:∀ p q r:Nat,p≤q→q≤r→(List.range' p (r - p)).map w=(List.range' p (q - p)).map w++(List.range' q (r - q)).map w:=by
  intro p q r h1 h2
  rw [← List.map_append]
  have:=List.range'_append_1 (s:=p) (m:=q - p) (n:=r - q)
  rw [show p+(q - p)=q from dP1 h1,show q - p+(r - q)=r - p from dY7 h1 h2] at this
  rw [this]
 have ne:∀ p q:Nat,p < q→(List.range' p (q - p)).map w≠[]:=by
  intro p q h z
  have:=congrArg List.length z
  simp at this
  lia
 constructor
 ·intro h
  have one:∀ k,a≤k→k≤b→f≤k∧k≤l:=by
   intro k h1 h2
   have hk:=W.wd k (aL3 h2 hb)
   have i1:w k <:+: nm w a b:=by
    unfold nm
    exact (bS0 _ (List.mem_map.mpr ⟨k,List.mem_range'_1.mpr ⟨h1,eO4 hab h2⟩,rfl⟩)).trans (List.suffix_append _ _).isInfix
   have i2:=i1.trans h
   have h45:45∉w k:=fun z=>(hk.ch 45 z).2.1 rfl
   have h42:42∉w k:=fun z=>(W.st k (aL3 h2 hb) 42 z).1 rfl
   have i3:w k <:+: nm w f l:=by
    cases s with
    | false=>simpa [star] using i2
    | true =>
     rcases bF2 h42 i2 with q | q
     ·exact q
     ·exact absurd (List.eq_nil_of_infix_nil q) hk.ne
   have i4:w k <:+: J ((List.range' f (l+1 - f)).map w):=by
    unfold nm at i3
    split at i3
    ·exact i3
    ·rcases bF2 (u:=[]) h45 i3 with q | q
     ·exact absurd (List.eq_nil_of_infix_nil q) hk.ne
     ·exact q
   obtain ⟨y,hy,i5⟩:=eC0 hk.ne h45 _ i4
   obtain ⟨j,hj,rfl⟩:=List.mem_map.mp hy
   have hj':=List.mem_range'_1.mp hj
   have:=W.inj k j (aL3 h2 hb) (bW4 hj'.1 hj'.2 hl) i5
   exact aV7 (aA9 hj'.1 (dA7 this)) (dY8 this (dY9 hj'.1 hj'.2))
  exact ⟨(one a (Nat.le_refl _) hab).1,(one b hab (Nat.le_refl _)).2⟩
 ·rintro ⟨h1,h2⟩
  refine List.IsInfix.trans ?_ (List.prefix_append _ _).isInfix
  unfold nm
  by_cases q:f=a
  ·subst q
   have e:=rng f (b+1) (l+1) (aO0 hab) (bL9 h2 (cl rfl))
   rw [e]
   have:=eG4 ((List.range' f (b+1 - f)).map w) ((List.range' (b+1) (l+1 - (b+1))).map w) (ne _ _ (dJ5 hab))
   obtain ⟨t,ht⟩:=this
   refine List.IsPrefix.isInfix ⟨t,?_⟩
   rw [List.append_assoc,ht]
  ·have e1:=rng f a (l+1) h1 (aO0 (aA9 hab h2))
   have e2:=rng a (b+1) (l+1) (aO0 hab) (bL9 h2 (cl rfl))
   rw [e1,bO7 _ _ (ne _ _ (by lia)) (by rw [e2];exact fun z=>ne a (b+1) (dJ5 hab) (List.append_eq_nil_iff.mp z).1)]
   rw [if_neg (by lia),e2]
   obtain ⟨t,ht⟩:=eG4 ((List.range' a (b+1 - a)).map w) ((List.range' (b+1) (l+1 - (b+1))).map w) (ne _ _ (dJ5 hab))
   refine ⟨(if f=0 then [] else [45])++J ((List.range' f (a - f)).map w),t,?_⟩
   rw [← ht]
   simp
theorem dH5:∀ x∈baseL,∀ y∈baseL,x <:+: y→x=y:=by
 have h:∀ x∈baseL,∀ y∈baseL,aZ9 (S x) (S y)=true→x=y:=by decide +kernel
 exact fun x hx y hy q=>h x hx y hy ((cS4 x y).mpr q)
theorem dU3:∀ x∈baseL,∀ c∈x,c≠42∧c≠47∧lo1 c=c∧lo1 (up1 c)=c∧up1 c≠47∧up1 c < 128:=by decide +kernel
theorem eI2 (got:List (List Nat)) (hnd:got.Nodup) (hb:∀ x∈got,x∈baseL):Ws got.length (fun k=>got.getD k []):=by
 have mem:∀ k,k < got.length→got.getD k []∈got:=fun k hk=>by
  rw [List.getD_eq_getElem?_getD,List.getElem?_eq_getElem hk]
  exact List.getElem_mem hk
 refine ⟨fun k hk=>cV7 _ (hb _ (mem k hk)),fun k hk=>dU3 _ (hb _ (mem k hk)),fun i j hi hj h=>?_⟩
 have e:=dH5 _ (hb _ (mem i hi)) _ (hb _ (mem j hj)) h
 simp only [List.getD_eq_getElem?_getD,List.getElem?_eq_getElem hi,List.getElem?_eq_getElem hj,Option.getD_some] at e
 exact (List.getElem_inj hnd).mp e
theorem cZ4 (got:List (List Nat)):aC2 got=(List.range got.length).map fun k=>D.str (S (got.getD k [])):=by
 apply List.ext_getElem
 ·simp
 ·intro i h1 h2
  have hi:i < got.length:=by simpa using h1
  simp [List.getD_eq_getElem?_getD,hi]
theorem aS2 {n:Nat} {w:Nat→List Nat} (W:Ws n w) {f l:Nat} (hl:l < n):∀ c∈nm w f l,c < 128∧c≠42∧c≠47∧lo1 c=c∧lo1 (up1 c)=c∧up1 c≠47∧up1 c < 128:=by
 intro c hc
 have h45:(45:Nat) < 128∧(45:Nat)≠42∧(45:Nat)≠47∧lo1 45=45∧lo1 (up1 45)=45∧up1 45≠47∧up1 45 < 128:=by decide
 unfold nm at hc
 rcases List.mem_append.mp hc with q | q
 ·split at q
  ·cases q
  ·rw [List.mem_singleton.mp q];exact h45
 ·rcases dV0 c _ q with q | ⟨y,hy,q⟩
  ·rw [q];exact h45
  ·obtain ⟨k,hk,rfl⟩:=List.mem_map.mp hy
   have hk':=List.mem_range'_1.mp hk
   exact ⟨((W.wd k (bW4 hk'.1 hk'.2 hl)).ch c q).1,W.st k (bW4 hk'.1 hk'.2 hl) c q⟩
theorem bE6 {n:Nat} {w:Nat→List Nat} (W:Ws n w) (hn:n≤7) {f l:Nat} (hl:l < n):(nm w f l).length≤710:=by
 unfold nm
 have h:=dI3 ((List.range' f (l+1 - f)).map w) (by
  intro y hy
  obtain ⟨k,hk,rfl⟩:=List.mem_map.mp hy
  have hk':=List.mem_range'_1.mp hk
  have:=(W.wd k (bW4 hk'.1 hk'.2 hl)).len
  exact aA9 this (cl rfl))
 simp at h
 have e:=q_J (c:=709) hn hl h rfl
 split<;>first | exact aA9 e (cl rfl) | exact Nat.succ_le_succ e
theorem eU9 {n:Nat} {w:Nat→List Nat} (W:Ws n w) {f l:Nat} (hfl:f≤l) (hl:l < n):nm w f l≠[42]:=by
 intro z
 have:=(aS2 W (f:=f) hl 42 (by rw [z];exact .head _)).2.1
 exact this rfl
end Mine
end
section
open PySem PySem.W PyProof.Rows PySem.Calls PySem.Spec
set_option autoImplicit false
set_option maxRecDepth 100000
namespace Mine
theorem bA2 (a b:Int):bG5 .eq (.int a) (.int b)=some (decide (a=b)):=by
 show (if aB0 4 (.int a)&&aB0 4 (.int b) then some (PyData.eqv (pd (.int a)) (pd (.int b))) else eqX (.int a) (.int b))=_
 have h1:(aB0 4 (.int a)&&aB0 4 (.int b))=true:=rfl
 rw [if_pos h1]
 rfl
theorem aY4 {f:Ro→Option (Option D)} {b:D→Option Ro} (g:D→Option D):∀ ds:List D,(∀ d∈ds,∃ ρ,b d=some ρ∧f ρ=some (g d))→aQ9 f b ds=some (ds.filterMap g)
 | [],_=>rfl
 | d::ds,h=>by
  obtain ⟨ρ,e1,e2⟩:=h d (.head _)
  (dsimp only [aQ9];rw [e1])
  simp only [aC1,e2]
  rw [aY4 g ds fun d hd=>h d (.tail _ hd),List.filterMap_cons]
  cases g d<;>rfl
theorem cJ3 (xs:List Int):bG5 .ne (.lst (xs.map .int)) (.lst [])=some (!xs.isEmpty):=by
 show (if aB0 4 (.lst (xs.map .int))&&aB0 4 (.lst []) then some (!PyData.eqv (pd (.lst (xs.map .int))) (pd (.lst []))) else neX (.lst (xs.map .int)) (.lst []))=_
 have e1:∀ (k:Nat) (xs:List Int),aF4 k (xs.map .int)=true:=by
  intro k xs
  induction xs with
  | nil=>rfl
  | cons a l ih=>(rw [List.map_cons];dsimp only [aF4];dsimp only [aB0];rw [ih]);rfl
 have e2:aB0 4 (.lst (xs.map .int))=true:=by (dsimp only [aB0]);exact e1 3 xs
 have e3:aB0 4 (.lst [])=true:=rfl
 rw [e2,e3,if_pos (by decide)]
 cases xs with
 | nil=>rfl
 | cons a l=>rfl
theorem aW6 {Γ:List Fn} {e:IE} {ρ:Ro} {b:Bool} (h:ev Γ e true ρ=some (.bool b)):tst Γ (.tr e) ρ=some b:=by (dsimp only [tst];rw [h]);rfl
noncomputable def rch (ps:List (Nat × Nat)) (f l:Nat):Bool:=ps.any fun p=>decide (f≤p.1)&&decide (p.2≤l)
noncomputable def aJ3 (w:Nat→List Nat) (p:Nat × Nat):List Nat:=if (p.1+p.2) % 2=1 then (nm w p.1 p.2).map up1 else nm w p.1 p.2
noncomputable def agents (w:Nat→List Nat) (ps:List (Nat × Nat)):List (List Nat) :=
 if ps.length % 2=0 then (ps.map (aJ3 w)).take (ps.length / 2)++[42]::(ps.map (aJ3 w)).drop (ps.length / 2) else ps.map (aJ3 w)
noncomputable def aI0 (n:Nat) (w:Nat→List Nat):List Nat:=nm w 0 (n - 1)
noncomputable def aG2 (n:Nat) (w:Nat→List Nat) (j:Nat):List Nat:=if j=0 then [] else if j=1 then [42,47]++aI0 n w else [42,47]++aI0 n w++[47]++aI0 n w
noncomputable def ask (n:Nat) (w:Nat→List Nat) (f l:Nat):List Nat:=(if f≤l then (nm w f l).map up1 else [])++aG2 n w ((f+l) % 3)
noncomputable abbrev bH2 (n:Nat) (w:Nat→List Nat):D:=aR4 n fun f=>aR4 n fun l=>.str (S (ask n w f l))
section
variable {n:Nat} {w:Nat→List Nat} (W:Ws n w)
include W
theorem cY7 {f l:Nat} (hl:l < n):((nm w f l).map up1).map lo1=nm w f l:=by
 rw [List.map_map]
 have e:(nm w f l).map (lo1 ∘ up1)=(nm w f l).map id:=List.map_congr_left fun c hc=>(aS2 W hl c hc).2.2.2.2.1
 rw [e,List.map_id]
theorem eL4 {f l:Nat} (hl:l < n):(nm w f l).map lo1=nm w f l:=by
 rw [List.map_congr_left (g:=id) fun c hc=>(aS2 W hl c hc).2.2.2.1,List.map_id]
theorem cD9 {p:Nat × Nat} (hl:p.2 < n):(aJ3 w p).map lo1=nm w p.1 p.2:=by
 dsimp only [aJ3]
 split
 ·exact cY7 W hl
 ·exact eL4 W hl
theorem cD8 {p:Nat × Nat} (hl:p.2 < n):aJ3 w p≠[42]:=by
 intro z
 have h:=cD9 W hl
 rw [z] at h
 have:=(aS2 W (f:=p.1) hl 42 (by rw [← h];decide)).2.1
 exact this rfl
theorem bY7 (hn:n≤7) {p:Nat × Nat} (hl:p.2 < n):(∀ c∈aJ3 w p,c < 128)∧(aJ3 w p).length≤710:=by
 have h1:=aS2 W (f:=p.1) hl
 have h2:=bE6 W hn (f:=p.1) hl
 dsimp only [aJ3]
 split
 ·refine ⟨fun c hc=>?_,by simpa using h2⟩
  obtain ⟨a,ha,rfl⟩:=List.mem_map.mp hc
  exact (h1 a ha).2.2.2.2.2.2
 ·exact ⟨fun c hc=>(h1 c hc).1,h2⟩
theorem cK5 (ps:List (Nat × Nat)) {a:List Nat} (h:a∈agents w ps):a=[42]∨∃ p∈ps,a=aJ3 w p:=by
 clear W
 dsimp only [agents] at h
 have key:∀ a,a∈ps.map (aJ3 w)→∃ p∈ps,a=aJ3 w p:=fun a h=>let ⟨p,hp,e⟩:=List.mem_map.mp h;⟨p,hp,e.symm⟩
 split at h
 ·rcases List.mem_append.mp h with q | q
  ·exact .inr (key a (List.mem_of_mem_take q))
  ·rcases List.mem_cons.mp q with q | q
   ·exact .inl q
   ·exact .inr (key a (List.mem_of_mem_drop q))
 ·exact .inr (key a h)
theorem cK6 (ps:List (Nat × Nat)) (P:List Nat→Bool) (h42:P [42]=false):(agents w ps).any P=ps.any fun p=>P (aJ3 w p):=by
 clear W
 dsimp only [agents]
 have e:ps.any (fun p=>P (aJ3 w p))=(ps.map (aJ3 w)).any P:=by rw [List.any_map];rfl
 rw [e]
 split
 ·rw [List.any_append,List.any_cons,h42,Bool.false_or,← List.any_append,List.take_append_drop]
 ·rfl
theorem bO5 {α:Type} {l:List α} {p q:α→Bool} (h:∀ x∈l,p x=q x):l.any p=l.any q:=by
 clear W
 induction l with
 | nil=>rfl
 | cons a l ih=>rw [List.any_cons,List.any_cons,h a (.head _),ih fun x hx=>h x (.tail _ hx)]
theorem cN0 (ps:List (Nat × Nat)) (hps:∀ p∈ps,p.1≤p.2∧p.2 < n):((agents w ps).any fun a=>decide (a=[42]))=decide (ps.length % 2=0):=by
 have e0:(ps.map (aJ3 w)).any (fun a=>decide (a=[42]))=false:=by
  rw [List.any_eq_false]
  intro a ha
  obtain ⟨p,hp,rfl⟩:=List.mem_map.mp ha
  simpa using cD8 W (hps p hp).2
 dsimp only [agents]
 split
 ·rename_i h
  rw [decide_eq_true h,List.any_append,List.any_cons]
  simp
 ·rename_i h
  rw [decide_eq_false h,e0]
theorem dX4 {f l:Nat} (hfl:f≤l) (hl:l < n):((ask n w f l).takeWhile (· != 47)).map lo1=nm w f l++star (decide ((f+l) % 3≠0)):=by
 have hu:∀ c∈(nm w f l).map up1,(c != 47)=true:=by
  intro c hc
  obtain ⟨a,ha,rfl⟩:=List.mem_map.mp hc
  simpa using (aS2 W hl a ha).2.2.2.2.2.1
 dsimp only [ask]
 rw [if_pos hfl]
 have hm:(f+l) % 3=0∨(f+l) % 3=1∨(f+l) % 3=2:=i_m3
 rcases hm with q | q | q
 ·rw [q,aG2,if_pos rfl,bI8 _ [] hu (by simp),cY7 W hl]
  simp [star]
 ·rw [q,aG2,if_neg (by decide),if_pos rfl]
  have:(nm w f l).map up1++([42,47]++aI0 n w)=((nm w f l).map up1++[42])++(47::aI0 n w):=by simp
  rw [this,bI8 _ _ (by
   intro c hc
   rcases List.mem_append.mp hc with q | q
   ·exact hu c q
   ·rw [List.mem_singleton.mp q];decide) (by simp),List.map_append,cY7 W hl]
  rfl
 ·rw [q,aG2,if_neg (by decide),if_neg (by decide)]
  have:(nm w f l).map up1++([42,47]++aI0 n w++[47]++aI0 n w)=((nm w f l).map up1++[42])++(47::(aI0 n w++[47]++aI0 n w)):=by simp
  rw [this,bI8 _ _ (by
   intro c hc
   rcases List.mem_append.mp hc with q | q
   ·exact hu c q
   ·rw [List.mem_singleton.mp q];decide) (by simp),List.map_append,cY7 W hl]
  rfl
theorem cZ0 (ps:List (Nat × Nat)) (hps:∀ p∈ps,p.1≤p.2∧p.2 < n) {f l:Nat} (hfl:f≤l) (hl:l < n):((agents w ps).any (hits (((ask n w f l).takeWhile (· != 47)).map lo1)))=rch ps f l:=by
 rw [dX4 W hfl hl,cK6 W ps _ (by simp [hits])]
 dsimp only [rch]
 refine bO5 W fun p hp=>?_
 obtain ⟨h1,h2⟩:=hps p hp
 dsimp only [hits]
 rw [decide_eq_true (cD8 W h2),Bool.true_and,cD9 W h2,Bool.eq_iff_iff,cS4,eA7 W _ h1 h2 hfl hl]
 simp
theorem bU6 (hn:n≤7) {f l:Nat} (hf:f < n) (hl:l < n):(∀ c∈ask n w f l,c < 128)∧(ask n w f l).length≤4000:=by
 have h0:=aS2 W (f:=0) (l:=n - 1) (dZ0 hl)
 have h0l:=bE6 W hn (f:=0) (l:=n - 1) (dZ0 hl)
 have h1:=aS2 W (f:=f) hl
 have h1l:=bE6 W hn (f:=f) hl
 have ht:∀ j,(∀ c∈aG2 n w j,c < 128)∧(aG2 n w j).length≤1500:=by
  intro j
  dsimp only [aG2,aI0]
  split
  ·simp
  ·split
   ·refine ⟨fun c hc=>?_,by simp;exact aA9 h0l (cl rfl)⟩
    refine hid fun Gz zz=>?_
    rcases List.mem_append.mp hc with q | q
    ·refine zz ?_;clear zz Gz
     simp at q;lia
    ·refine zz ?_;clear zz Gz
     exact (h0 c q).1
   ·refine ⟨fun c hc=>?_,by simp;exact aX4 h0l (bJ3 h0l) rfl⟩
    rcases List.mem_append.mp hc with q | q
    ·rcases List.mem_append.mp q with q | q
     ·rcases List.mem_append.mp q with q | q
      ·simp at q;lia
      ·exact (h0 c q).1
     ·simp at q;exact bQ8 q (cl rfl)
    ·exact (h0 c q).1
 dsimp only [ask]
 refine ⟨fun c hc=>?_,?_⟩
 ·rcases List.mem_append.mp hc with q | q
  ·split at q
   ·obtain ⟨a,ha,rfl⟩:=List.mem_map.mp q
    exact (h1 a ha).2.2.2.2.2.2
   ·cases q
  ·exact (ht _).1 c q
 ·have:=(ht ((f+l) % 3)).2
  split<;>simp<;>lia
end
end Mine
end
section
open PySem PySem.W PyProof.Rows PySem.Calls PySem.Spec
set_option autoImplicit false
set_option maxRecDepth 100000
namespace Mine
noncomputable def aF5 (n:Nat) (r:Nat→Nat→Bool):D:=aR4 n fun f=>aR4 n fun l=>.bool (decide (f≤l)&&r f l)
theorem cT6 {Γ:List Fn} {a:IE} {tr:Bool} {ρ:Ro} {x:Nat} (h:ev Γ a tr ρ=some (.int (x:Int))):ev Γ (.bin .mod a (.int 2)) tr ρ=some (.int ((x % 2:Nat):Int)):=by
 refine aE8 h aB7 ?_
 rw [aW3,if_neg ((by decide)),Int.fmod_eq_emod_of_nonneg _ ((by decide))]
 rfl
theorem bG0 {Γ:List Fn} {a b:IE} {tr:Bool} {ρ:Ro} {x y:Nat} (h1:ev Γ a tr ρ=some (.int (x:Int))) (h2:ev Γ b tr ρ=some (.int (y:Int))):ev Γ (.bin .add a b) tr ρ=some (.int ((x+y:Nat):Int)):=by
 rw [aL0 h1 h2]
 rfl
theorem dT0 {Γ:List Fn} {a:IE} {tr:Bool} {ρ:Ro} {x:Nat} (h:ev Γ a tr ρ=some (.int (x:Int))):ev Γ (.bin .fdiv a (.int 2)) tr ρ=some (.int ((x / 2:Nat):Int)):=by
 refine aE8 h aB7 ?_
 rw [bO3,if_pos (by decide),Int.fdiv_eq_ediv_of_nonneg _ ((by decide))]
 rfl
theorem bK4 {ρ:Ro} {r e:IE} {tr:Bool} {ag:List D} {y d:D} (h1:ev ak r true ρ=some (.ent ag)) (h2:ev ak e true ρ=some y) (h3:aG4 [.ent ag,y]=some d) (h4:dE1 d=true):ev ak (.applies 0 r e) tr ρ=some d:=by
 (dsimp only [ev];rw [h1,aC1,h2])
 show (aG4 [.ent ag,y]).bind _=_
 rw [h3,aC1,if_pos h4]
theorem bP7 {Γ:List Fn} {a b:IE} {ρ:Ro} {x y:Bool} (h1:ev Γ a true ρ=some (.bool x)) (h2:ev Γ b true ρ=some (.bool y)):tst Γ (.cmp .isNot a b) ρ=some (x != y):=aD8 h1 h2 rfl
noncomputable def gP (f l:Nat):D→Option D
 | .tup [.int a,.int b]=>if decide ((f:Int)≤a)&&decide (b≤(l:Int)) then some (.int a) else none
 | _=>none
theorem dS2 (f l:Nat) (p:Nat × Nat):gP f l (.tup [.int (p.1:Int),.int (p.2:Int)])=if decide (f≤p.1)&&decide (p.2≤l) then some (.int (p.1:Int)) else none:=by
 have e1:decide ((f:Int)≤(p.1:Int))=decide (f≤p.1):=by by_cases q:f≤p.1<;>simp [q]
 have e2:decide ((p.2:Int)≤(l:Int))=decide (p.2≤l):=by by_cases q:p.2≤l<;>simp [q]
 (dsimp only [gP];rw [e1,e2])
theorem bK0 (f l:Nat):∀ ps:List (Nat × Nat),(aA6 ps).filterMap (gP f l)=((ps.filter fun p=>decide (f≤p.1)&&decide (p.2≤l)).map fun p=>(p.1:Int)).map .int
 | []=>rfl
 | p::ps=>by
  rw [aA6,List.map_cons,List.filterMap_cons,dS2,List.filter_cons]
  have ih:=bK0 f l ps
  rw [aA6] at ih
  cases (decide (f≤p.1)&&decide (p.2≤l)) with
  | true=>simp only [if_true,List.map_cons];rw [ih]
  | false=>simp only [Bool.false_eq_true,if_false];exact ih
theorem cF6 {n:Nat} {w:Nat→List Nat} (W:Ws n w) (hn:n≤7) (ps:List (Nat × Nat)) (hps:∀ p∈ps,p.1≤p.2∧p.2 < n) (hpl:ps.length≤100):aW0 [aB8 n w,bH2 n w,.lst (aA6 ps)]=some (aF5 n (rch ps)):=by
 refine (aH5 (by rfl)).trans ?_
 show (aD7 ak aN1 [(0,.dat (aB8 n w)),(1,.dat (bH2 n w)),(2,.dat (.lst (aA6 ps)))]).bind aC5=_
 unfold aN1
 have e0:run ak (.entNew 3) [(0,.dat (aB8 n w)),(1,.dat (bH2 n w)),(2,.dat (.lst (aA6 ps)))]=some (.next [(0,.dat (aB8 n w)),(1,.dat (bH2 n w)),(2,.dat (.lst (aA6 ps))),(3,.own (.ent []))]):=rfl
 rw [aA4 e0]
 have hfor:∃ ae:Ro,run ak (.for2 5 6 (.seq (.var 2))
   (.cons (.asg 7 (.idx (.idx (.var 0) (.var 5)) (.var 6)))
   (.cons (.entApp 3 (.ite (.cmp .eq (.bin .mod (.bin .add (.var 5) (.var 6)) (.int 2)) (.int 1)) (.upper (.var 7)) (.var 7)))
   .nil))) [(0,.dat (aB8 n w)),(1,.dat (bH2 n w)),(2,.dat (.lst (aA6 ps))),(3,.own (.ent []))]=some (.next ae) ∧
   ae.lookup 0=some (.dat (aB8 n w))∧ae.lookup 1=some (.dat (bH2 n w))∧ae.lookup 2=some (.dat (.lst (aA6 ps)))∧ae.lookup 3=some (.own (.ent (aC2 ((ps.take (aA6 ps).length).map (aJ3 w))))):=by
  (dsimp only [run];rw [aX0 (ds:=aA6 ps) (aA1 rfl),aC1])
  obtain ⟨ao,e,h⟩:=aO8 (f:=fun d ρ=>(cK0 5 6 d).bind fun bs=>aD7 ak (.cons (.asg 7 (.idx (.idx (.var 0) (.var 5)) (.var 6)))
   (.cons (.entApp 3 (.ite (.cmp .eq (.bin .mod (.bin .add (.var 5) (.var 6)) (.int 2)) (.int 1)) (.upper (.var 7)) (.var 7)))
   .nil)) (aD2 bs ρ)) (fun k ρ=>ρ.lookup 0=some (.dat (aB8 n w))∧ρ.lookup 1=some (.dat (bH2 n w))∧ρ.lookup 2=some (.dat (.lst (aA6 ps)))∧ρ.lookup 3=some (.own (.ent (aC2 ((ps.take k).map (aJ3 w))))))
   (aA6 ps) 0 [(0,.dat (aB8 n w)),(1,.dat (bH2 n w)),(2,.dat (.lst (aA6 ps))),(3,.own (.ent []))] ⟨rfl,rfl,rfl,rfl⟩ (by
    rintro j hj ρ ⟨h0,h1,h2,h3⟩
    rw [Nat.zero_add] at h3 ⊢
    have hj':j < ps.length:=by simpa using hj
    obtain ⟨hp1,hp2⟩:=hps ps[j] (List.getElem_mem hj')
    have ed:(aA6 ps)[j]=.tup [.int (ps[j].1:Int),.int (ps[j].2:Int)]:=by simp [aA6]
    rw [ed]
    show ∃ ao,aD7 _ _ (aA2 (aA2 ρ 5 (.dat (.int (ps[j].1:Int)))) 6 (.dat (.int (ps[j].2:Int))))=_∧_
    generalize aQ:aA2 (aA2 ρ 5 (.dat (.int (ps[j].1:Int)))) 6 (.dat (.int (ps[j].2:Int)))=ae
    have l0:ae.lookup 0=some (.dat (aB8 n w)):=lkT aQ ((aA0 (by decide)).trans ((aA0 (by decide)).trans h0))
    have l1:ae.lookup 1=some (.dat (bH2 n w)):=lkT aQ ((aA0 (by decide)).trans ((aA0 (by decide)).trans h1))
    have l2:ae.lookup 2=some (.dat (.lst (aA6 ps))):=lkT aQ ((aA0 (by decide)).trans ((aA0 (by decide)).trans h2))
    have l3:ae.lookup 3=some (.own (.ent (aC2 ((ps.take j).map (aJ3 w))))):=lkT aQ ((aA0 (by decide)).trans ((aA0 (by decide)).trans h3))
    have l5:ae.lookup 5=some (.dat (.int (ps[j].1:Int))):=lkT aQ ((aA0 (by decide)).trans (aA3 _ _ _))
    have l6:ae.lookup 6=some (.dat (.int (ps[j].2:Int))):=lkT aQ (aA3 _ _ _)
    have e7:ev ak (.idx (.idx (.var 0) (.var 5)) (.var 6)) false ae=some (.str (S (nm w ps[j].1 ps[j].2))):=by
     rw [aF7 (aF7 (x:=aB8 n w) (aA1 l0) (aA1 l5) (aG3 (aL3 hp1 hp2) (aA9 hn (cl rfl)))) (aA1 l6) (aG3 hp2 (aA9 hn (cl rfl)))]
     unfold cell
     rw [if_pos hp1]
    rw [aA4 (aD1 e7)]
    generalize bh:aA2 ae 7 _=aq
    have m3:aq.lookup 3=some (.own (.ent (aC2 ((ps.take j).map (aJ3 w))))):=lkT bh ((aA0 (by decide)).trans l3)
    have m5:aq.lookup 5=some (.dat (.int (ps[j].1:Int))):=lkT bh ((aA0 (by decide)).trans l5)
    have m6:aq.lookup 6=some (.dat (.int (ps[j].2:Int))):=lkT bh ((aA0 (by decide)).trans l6)
    have m7:aq.lookup 7=some (.dat (.str (S (nm w ps[j].1 ps[j].2)))):=lkT bh (aA3 _ _ _)
    have ee:ev ak (.ite (.cmp .eq (.bin .mod (.bin .add (.var 5) (.var 6)) (.int 2)) (.int 1)) (.upper (.var 7)) (.var 7)) false aq=some (.str (S (aJ3 w ps[j]))):=by
     have hlen:=bE6 W hn (f:=ps[j].1) hp2
     rw [bA9 (aD8 (cT6 (bG0 (aA1 m5) (aA1 m6))) aB7 (bA2 _ _)) (fun _=>bN4 (aA1 m7) (aA9 hlen (cl rfl)) fun c hc=>(aS2 W hp2 c hc).1) (fun _=>aA1 m7)]
     unfold aJ3
     by_cases q:(ps[j].1+ps[j].2) % 2=1
     ·rw [if_pos (by simp;lia),if_pos q]
     ·rw [if_neg (by simp;lia),if_neg q]
    have er:run ak (.entApp 3 (.ite (.cmp .eq (.bin .mod (.bin .add (.var 5) (.var 6)) (.int 2)) (.int 1)) (.upper (.var 7)) (.var 7))) aq=some (.next (aA2 aq 3 (.own (.ent (aC2 ((ps.take j).map (aJ3 w))++[.str (S (aJ3 w ps[j]))]))))):=by
     (dsimp only [run];rw [aE3 m3,aC1,ee,aC1])
     have:(aC2 ((ps.take j).map (aJ3 w))).length≤lim:=by simp [lim];exact dZ3 (aA9 hpl (cl rfl))
     simp only [this,if_true]
    rw [aC7 er]
    refine ⟨_,rfl,?_,?_,?_,?_⟩
    ·rw [aA0 (by decide),← bh,aA0 (by decide),l0]
    ·rw [aA0 (by decide),← bh,aA0 (by decide),l1]
    ·rw [aA0 (by decide),← bh,aA0 (by decide),l2]
    ·have et:aC2 ((ps.take (j+1)).map (aJ3 w))=aC2 ((ps.take j).map (aJ3 w))++[.str (S (aJ3 w ps[j]))]:=by
      rw [List.take_add_one,List.getElem?_eq_getElem hj']
      simp only [Option.toList_some,List.map_append,List.map_cons,List.map_nil,aC2]
     rw [aA3,et])
  rw [Nat.zero_add] at h
  exact ⟨ao,e,h⟩
 obtain ⟨ae,e1,h0,h1,h2,h3⟩:=hfor
 rw [aA4 e1]
 rw [List.length_map,List.take_of_length_le (Nat.le_refl _)] at h3
 have elen:∀ (tr:Bool) (ρ:Ro),ρ.lookup 2=some (.dat (.lst (aA6 ps)))→ev ak (.len (.var 2)) tr ρ=some (.int (ps.length:Int)):=fun tr ρ h=>aQ8 (aA1 h) (by simp) (aA9 hpl (cl rfl))
 have etst:∀ (ρ:Ro),ρ.lookup 2=some (.dat (.lst (aA6 ps)))→∀ tr,ev ak (.cmp .eq (.bin .mod (.len (.var 2)) (.int 2)) (.int 0)) tr ρ=some (.bool (decide (ps.length % 2=0)))∧tst ak (.cmp .eq (.bin .mod (.len (.var 2)) (.int 2)) (.int 0)) ρ=some (decide (ps.length % 2=0)):=by
  intro ρ h tr
  have e:=cT6 (elen true ρ h)
  have hd:(decide (((ps.length % 2:Nat):Int)=0))=decide (ps.length % 2=0):=by
   by_cases q:ps.length % 2=0
   ·simp [q]
   ·rw [decide_eq_false q,decide_eq_false (by lia)]
  have hc:=bA2 ((ps.length % 2:Nat):Int) 0
  rw [hd] at hc
  exact ⟨bK3 e aB7 hc,aD8 e aB7 hc⟩
 have hins:∃ aq:Ro,run ak (.ite (.cmp .eq (.bin .mod (.len (.var 2)) (.int 2)) (.int 0)) (.cons (.entIns 3 (.bin .fdiv (.len (.var 2)) (.int 2)) "*") .nil) .nil) ae=some (.next aq) ∧
   aq.lookup 0=some (.dat (aB8 n w))∧aq.lookup 1=some (.dat (bH2 n w))∧aq.lookup 2=some (.dat (.lst (aA6 ps)))∧aq.lookup 3=some (.own (.ent (aC2 (agents w ps)))):=by
  by_cases q:ps.length % 2=0
  ·rw [aI3 (by rw [(etst ae h2 true).2,decide_eq_true q])]
   have er:run ak (.entIns 3 (.bin .fdiv (.len (.var 2)) (.int 2)) "*") ae=some (.next (aA2 ae 3 (.own (.ent (aC2 (agents w ps)))))):=by
    (dsimp only [run];rw [aE3 h3,aC1,dT0 (elen true ae h2),aC1])
    have hl:(aC2 (ps.map (aJ3 w))).length=ps.length:=by simp
    show (if _ then _ else _)=_
    rw [if_pos ⟨bA0 rfl,by rw [hl];exact cX3 eT6,by rw [hl];unfold lim;exact aA9 hpl (cl rfl)⟩,bM7]
    unfold agents
    rw [if_pos q]
    simp only [Int.toNat_natCast,aC2,List.map_append,List.map_cons,List.map_take,List.map_drop]
   rw [aC7 er]
   exact ⟨_,rfl,(aA0 (by decide)).trans h0,(aA0 (by decide)).trans h1,(aA0 (by decide)).trans h2,aA3 _ _ _⟩
  ·(rw [aF2 (by rw [(etst ae h2 true).2,decide_eq_false q])];dsimp only [aD7])
   refine ⟨_,rfl,h0,h1,h2,?_⟩
   rw [h3]
   unfold agents
   rw [if_neg q]
 obtain ⟨aq,e2,j0,j1,j2,j3⟩:=hins
 rw [aA4 e2]
 clear e1 e2 h0 h1 h2 h3 e0
 have hag:∀ a∈agents w ps,(∀ c∈a,c < 128)∧a.length≤4000:=by
  intro a ha
  rcases cK5 W ps ha with rfl | ⟨p,hp,rfl⟩
  ·simp
  ·have:=bY7 W hn (hps p hp).2
   exact ⟨this.1,aA9 this.2 (cl rfl)⟩
 have ea0:ev ak (.applies 0 (.var 3) .none) true aq=some (.bool (decide (ps.length % 2=0))):=by
  refine bK4 (bF8 j3) (y:=.none) rfl ?_ rfl
  rw [dH9 _ fun a ha=>(hag a ha).1,cN0 W ps hps]
 have ei:run ak (.ite (.cmp .isNot (.applies 0 (.var 3) (.none)) (.cmp .eq (.bin .mod (.len (.var 2)) (.int 2)) (.int 0))) (.cons (.ret (.list (.nil))) .nil) .nil) aq=some (.next aq):=by
  (rw [aF2 (by rw [bP7 ea0 (etst aq j2 true).1];simp)];dsimp only [aD7])
 rw [aA4 ei,aA4 aI2]
 clear ei ea0
 have hlen0:∀ (ρ:Ro) (tr:Bool),ρ.lookup 0=some (.dat (aB8 n w))→ev ak (.len (.var 0)) tr ρ=some (.int (n:Int)):=fun ρ tr h=>aQ8 (ds:=(List.range n).map fun f=>aR4 n (cell w f)) (aA1 h) (by simp) (aA9 hn (cl rfl))
 obtain ⟨aG,e4,i0,i1,i2,i3,i4⟩:=aK6 (Γ:=ak) (i:=5) (a:=.len (.var 0)) (n:=n) (ρ:=aA2 aq 4 (.own (.lst [])))
  (body:=(.cons (.ownMul 8 (.cons (.bool false) .nil) (.var 5))
  (.cons (.for1 6 (.rng2 (.var 5) (.len (.var 0)))
   (.cons (.asg 9 (.applies 0 (.var 3) (.idx (.idx (.var 1) (.var 5)) (.var 6))))
   (.cons (.asg 10 (.cmp .ne (.comp2 (.var 11) 11 12 (.seq (.var 2)) (.cons (.bools true (.cons (.cmp .le (.var 5) (.var 11)) (.cons (.cmp .le (.var 12) (.var 6)) .nil))) .nil)) (.list (.nil))))
   (.cons (.ite (.cmp .isNot (.var 9) (.var 10))
    (.cons (.ret (.list (.nil)))
    .nil)
    .nil)
   (.cons (.app 8 (.var 9))
   .nil)))))
  (.cons (.freeze 8)
  (.cons (.app 4 (.var 8))
  .nil)))))
  (fun f ρ=>ρ.lookup 0=some (.dat (aB8 n w))∧ρ.lookup 1=some (.dat (bH2 n w))∧ρ.lookup 2=some (.dat (.lst (aA6 ps)))∧ρ.lookup 3=some (.own (.ent (aC2 (agents w ps)))) ∧
   ρ.lookup 4=some (.own (.lst ((List.range f).map fun f=>aR4 n fun l=>.bool (decide (f≤l)&&rch ps f l)))))
  (hlen0 _ _ ((aA0 (by decide)).trans j0)) (aA9 hn (cl rfl)) ⟨(aA0 (by decide)).trans j0,(aA0 (by decide)).trans j1,(aA0 (by decide)).trans j2,(aA0 (by decide)).trans j3,aA3 _ _ _⟩ (by
   rintro f hf ρ ⟨h0,h1,h2,h3,h4⟩
   have em:run ak (.ownMul 8 (.cons (.bool false) .nil) (.var 5)) (aA2 ρ 5 (.dat (.int (f:Int))))=some (.next (aA2 (aA2 ρ 5 (.dat (.int (f:Int)))) 8 (.own (.lst ((List.range f).map fun l=>.bool (decide (f≤l)&&rch ps f l)))))):=by
    have ef:(List.replicate f [D.bool false]).flatten=(List.range f).map fun l=>D.bool (decide (f≤l)&&rch ps f l):=by
     rw [List.map_congr_left (g:=fun _=>D.bool false)]
     ·rw [List.map_const',List.length_range]
      induction f with
      | zero=>rfl
      | succ k ih=>rw [List.replicate_succ,List.flatten_cons,List.replicate_succ];simp
     ·intro k hk
      have:=List.mem_range.mp hk
      rw [decide_eq_false (dP0 this),Bool.false_and]
    (dsimp only [run])
    (dsimp only [evs,ev];simp only [aA3,aC1,bO9])
    rw [if_pos ⟨bA0 rfl,i_l (cX4 (aM7 hf hn) rfl),by simp;exact aA9 (bL8 hf) (aA9 hn (cl rfl)),by simp [lim]⟩]
    simp only [Int.toNat_natCast]
    rw [ef]
   rw [aA4 em]
   generalize aQ:aA2 (aA2 ρ 5 (.dat (.int (f:Int)))) 8 _=ae
   have l0:ae.lookup 0=some (.dat (aB8 n w)):=lkT aQ ((aA0 (by decide)).trans ((aA0 (by decide)).trans h0))
   have l1:ae.lookup 1=some (.dat (bH2 n w)):=lkT aQ ((aA0 (by decide)).trans ((aA0 (by decide)).trans h1))
   have l2:ae.lookup 2=some (.dat (.lst (aA6 ps))):=lkT aQ ((aA0 (by decide)).trans ((aA0 (by decide)).trans h2))
   have l3:ae.lookup 3=some (.own (.ent (aC2 (agents w ps)))):=lkT aQ ((aA0 (by decide)).trans ((aA0 (by decide)).trans h3))
   have l4:ae.lookup 4=some (.own (.lst ((List.range f).map fun f=>aR4 n fun l=>.bool (decide (f≤l)&&rch ps f l)))):=lkT aQ ((aA0 (by decide)).trans ((aA0 (by decide)).trans h4))
   have l5:ae.lookup 5=some (.dat (.int (f:Int))):=lkT aQ ((aA0 (by decide)).trans (aA3 _ _ _))
   have l8:ae.lookup 8=some (.own (.lst ((List.range f).map fun l=>.bool (decide (f≤l)&&rch ps f l)))):=lkT aQ (aA3 _ _ _)
   clear aQ em
   refine hid fun Gz zz=>?_
   obtain ⟨bb,e4,i0,i1,i2,i3,i4,i5,i8⟩:=bF6 (Γ:=ak) (i:=6) (a:=.var 5) (b:=.len (.var 0)) (m:=f) (n:=n) (ρ:=ae)
    (body:=(.cons (.asg 9 (.applies 0 (.var 3) (.idx (.idx (.var 1) (.var 5)) (.var 6))))
     (.cons (.asg 10 (.cmp .ne (.comp2 (.var 11) 11 12 (.seq (.var 2)) (.cons (.bools true (.cons (.cmp .le (.var 5) (.var 11)) (.cons (.cmp .le (.var 12) (.var 6)) .nil))) .nil)) (.list (.nil))))
     (.cons (.ite (.cmp .isNot (.var 9) (.var 10))
      (.cons (.ret (.list (.nil)))
      .nil)
      .nil)
     (.cons (.app 8 (.var 9))
     .nil)))))
    (fun l ρ=>ρ.lookup 0=some (.dat (aB8 n w))∧ρ.lookup 1=some (.dat (bH2 n w))∧ρ.lookup 2=some (.dat (.lst (aA6 ps)))∧ρ.lookup 3=some (.own (.ent (aC2 (agents w ps)))) ∧
     ρ.lookup 4=some (.own (.lst ((List.range f).map fun f=>aR4 n fun l=>.bool (decide (f≤l)&&rch ps f l))))∧ρ.lookup 5=some (.dat (.int (f:Int))) ∧
     ρ.lookup 8=some (.own (.lst ((List.range l).map fun l=>.bool (decide (f≤l)&&rch ps f l)))))
    (aA1 l5) (hlen0 _ _ l0) (bL8 hf) (aA9 hn (cl rfl)) ⟨l0,l1,l2,l3,l4,l5,l8⟩ (by
     rintro l hfl hl ρ ⟨h0,h1,h2,h3,h4,h5,h8⟩
     have haa:=bU6 W hn hf hl
     have ea:ev ak (.applies 0 (.var 3) (.idx (.idx (.var 1) (.var 5)) (.var 6))) false (aA2 ρ 6 (.dat (.int (l:Int))))=some (.bool (rch ps f l)):=by
      refine bK4 (ag:=aC2 (agents w ps)) (y:=.str (S (ask n w f l))) (bF8 ((aA0 (by decide)).trans h3)) (aF7 (aF7 (x:=bH2 n w) (aA1 ((aA0 (by decide)).trans h1)) (aA1 ((aA0 (by decide)).trans h5)) (aG3 hf (aA9 hn (cl rfl)))) (aA1 (aA3 _ _ _)) (aG3 hl (aA9 hn (cl rfl)))) ?_ rfl
      rw [dU7 _ _ hag haa.1 haa.2,cZ0 W ps hps hfl hl]
     rw [aA4 (aD1 ea)]
     generalize aQ:aA2 (aA2 ρ 6 (.dat (.int (l:Int)))) 9 _=aM
     have g2:aM.lookup 2=some (.dat (.lst (aA6 ps))):=lkT aQ ((aA0 (by decide)).trans ((aA0 (by decide)).trans h2))
     have g5:aM.lookup 5=some (.dat (.int (f:Int))):=lkT aQ ((aA0 (by decide)).trans ((aA0 (by decide)).trans h5))
     have g6:aM.lookup 6=some (.dat (.int (l:Int))):=lkT aQ ((aA0 (by decide)).trans (aA3 _ _ _))
     have g9:aM.lookup 9=some (.dat (.bool (rch ps f l))):=lkT aQ (aA3 _ _ _)
     have ec:ev ak (.comp2 (.var 11) 11 12 (.seq (.var 2)) (.cons (.bools true (.cons (.cmp .le (.var 5) (.var 11)) (.cons (.cmp .le (.var 12) (.var 6)) .nil))) .nil)) true aM=some (.lst (((ps.filter fun p=>decide (f≤p.1)&&decide (p.2≤l)).map fun p=>(p.1:Int)).map .int)):=by
      show (bI2 _ _ _).bind _=_;rw [aX0 (aA1 g2),aC1,if_pos (by simp [lim];exact aA9 hpl (cl rfl))]
      rw [aY4 (gP f l)]
      ·rw [bO9]
       congr 2
       exact bK0 f l ps
      ·intro d hd
       obtain ⟨p,hp,rfl⟩:=List.mem_map.mp hd
       refine ⟨_,rfl,?_⟩
       have v5:ev ak (.var 5) true ((12,.dat (.int (p.2:Int)))::(11,.dat (.int (p.1:Int)))::aP4 aM)=some (.int f):=aA1 (by rw [aB4 (by decide),aB4 (by decide)];exact aC6 g5)
       have v6:ev ak (.var 6) true ((12,.dat (.int (p.2:Int)))::(11,.dat (.int (p.1:Int)))::aP4 aM)=some (.int l):=aA1 (by rw [aB4 (by decide),aB4 (by decide)];exact aC6 g6)
       have v11:∀ tr,ev ak (.var 11) tr ((12,.dat (.int (p.2:Int)))::(11,.dat (.int (p.1:Int)))::aP4 aM)=some (.int p.1):=fun tr=>aA1 ((aB4 (by decide)).trans (aD6))
       have v12:ev ak (.var 12) true ((12,.dat (.int (p.2:Int)))::(11,.dat (.int (p.1:Int)))::aP4 aM)=some (.int p.2):=aA1 aD6
       (dsimp only [dJ0,tst,aP5,bG5,i2];simp only [v5,v6,v11,v12,aC1,bO9])
       by_cases q1:(f:Int)≤(p.1:Int)
       ·by_cases q2:(p.2:Int)≤(l:Int)
        ·(dsimp only [gP];simp [q1,q2])
        ·(dsimp only [gP];simp [q1,q2])
       ·(dsimp only [gP];simp [q1])
     have hre:(!((ps.filter fun p=>decide (f≤p.1)&&decide (p.2≤l)).map fun p=>(p.1:Int)).isEmpty)=rch ps f l:=by
      rw [List.isEmpty_map]
      unfold rch
      rw [Bool.eq_iff_iff,Bool.not_eq_true',List.isEmpty_eq_false_iff,List.any_eq_true,ne_eq,List.filter_eq_nil_iff]
      constructor
      ·intro h
       apply Classical.byContradiction
       intro q
       exact h fun a ha hq=>q ⟨a,ha,hq⟩
      ·rintro ⟨a,ha,hq⟩ h
       exact h a ha hq
     have e10:ev ak (.cmp .ne (.comp2 (.var 11) 11 12 (.seq (.var 2)) (.cons (.bools true (.cons (.cmp .le (.var 5) (.var 11)) (.cons (.cmp .le (.var 12) (.var 6)) .nil))) .nil)) (.list (.nil))) false aM=some (.bool (rch ps f l)):=by
      refine bK3 ec (y:=.lst []) rfl ?_
      rw [cJ3,hre]
     rw [aA4 (aD1 e10)]
     have k9:(aA2 aM 10 (.dat (.bool (rch ps f l)))).lookup 9=some (.dat (.bool (rch ps f l))):=(aA0 (by decide)).trans g9
     have eite:run ak (.ite (.cmp .isNot (.var 9) (.var 10)) (.cons (.ret (.list (.nil))) .nil) .nil) (aA2 aM 10 (.dat (.bool (rch ps f l))))=some (.next (aA2 aM 10 (.dat (.bool (rch ps f l))))):=by
      (rw [aF2 (by rw [bP7 (aA1 k9) (aA1 (aA3 _ _ _))];simp)];dsimp only [aD7])
     rw [aA4 eite]
     have k8:(aA2 aM 10 (.dat (.bool (rch ps f l)))).lookup 8=some (.own (.lst ((List.range l).map fun l=>.bool (decide (f≤l)&&rch ps f l)))):=(aA0 (by decide)).trans (lkT aQ ((aA0 (by decide)).trans ((aA0 (by decide)).trans h8)))
     rw [aC7 (aR9 k8 (aA1 k9) (by simp;exact aA9 (bL8 hl) (aA9 hn (cl rfl))))]
     refine ⟨_,rfl,?_,?_,?_,?_,?_,?_,?_⟩
     ·rw [aA0 (by decide),aA0 (by decide),← aQ,aA0 (by decide),aA0 (by decide),h0]
     ·rw [aA0 (by decide),aA0 (by decide),← aQ,aA0 (by decide),aA0 (by decide),h1]
     ·exact (aA0 (by decide)).trans ((aA0 (by decide)).trans g2)
     ·rw [aA0 (by decide),aA0 (by decide),← aQ,aA0 (by decide),aA0 (by decide),h3]
     ·rw [aA0 (by decide),aA0 (by decide),← aQ,aA0 (by decide),aA0 (by decide),h4]
     ·exact (aA0 (by decide)).trans ((aA0 (by decide)).trans g5)
     ·rw [aA3,← aX2,decide_eq_true hfl,Bool.true_and])
   refine zz ?_;clear zz Gz
   rw [aA4 e4,aA4 (aF3 i8)]
   have e6:ev ak (.var 8) false (aA2 bb 8 (.dat (aR4 n fun l=>.bool (decide (f≤l)&&rch ps f l))))=some (aR4 n fun l=>.bool (decide (f≤l)&&rch ps f l)):=aA1 (aA3 _ _ _)
   rw [aC7 (aR9 ((aA0 (by decide)).trans i4) e6 (by simp;exact aA9 (bL8 hf) (aA9 hn (cl rfl))))]
   refine ⟨_,rfl,(aA0 (by decide)).trans ((aA0 (by decide)).trans i0),(aA0 (by decide)).trans ((aA0 (by decide)).trans i1),(aA0 (by decide)).trans ((aA0 (by decide)).trans i2),(aA0 (by decide)).trans ((aA0 (by decide)).trans i3),?_⟩
   rw [aA3,← aX2])
 rw [aA4 e4,aA4 (aF3 i4),aE0 (aF6 (aA1 (aA3 _ _ _)))]
 rfl
end Mine
end
section
open PySem PySem.W PyProof.Rows PySem.Calls PySem.Spec
set_option autoImplicit false
set_option maxRecDepth 100000
namespace Mine
noncomputable def lc (n:Nat) (r:Nat→Nat→Bool) (f l:Nat):Bool:=(decide (f=0) || r (f - 1) l)&&(decide (l=n - 1) || r f (l+1))&&!r f l
noncomputable def aX7 (n:Nat) (r:Nat→Nat→Bool):List (Nat × Nat):=(List.range n).flatMap fun f=>((List.range' f (n - f)).filter (lc n r f)).map fun l=>(f,l)
noncomputable def aJ4 (n:Nat) (ps:List (Nat × Nat)):List (Nat × Nat):=aX7 n (rch ps)
noncomputable def aB5 (n:Nat):Nat→List (Nat × Nat)→List (List (Nat × Nat))
 | 0,_=>[]
 | k+1,p=>p::aB5 n k (aJ4 n p)
noncomputable def rM (m:List Nat) (f l:Nat):Bool:=decide (m.getD f 0≤l)
noncomputable def cX5 (n:Nat):Nat→Nat→List (List Nat)
 | 0,_=>[[]]
 | k+1,lo=>(List.range' (max lo (n - (k+1))) (n+1 - max lo (n - (k+1)))).flatMap fun v=>(cX5 n k v).map (v::·)
noncomputable def dT9 (pages:List (List (Nat × Nat))) (k:Nat):Nat:=(pages.flatten.filter fun p=>p.1 == k).length+(pages.flatten.filter fun p=>p.2 == k).length
noncomputable def bX6 (n:Nat) (pages:List (List (Nat × Nat))):Bool :=
 (pages.getD (n+1) [] |>.reverse) == ((pages.getD 0 []).map fun p=>(n - 1 - p.2,n - 1 - p.1)) &&
 (List.range n).all (fun k=>dT9 (pages.take (n+1)) k+dT9 (pages.take (n+1)) (n - 1 - k) == 2*n+2) &&
 2*(pages.take (n+1)).flatten.length == n*n+n
theorem eM7:((cX5 2 2 0).all fun m=>bX6 2 (aB5 2 4 (aX7 2 (rM m))))=true:=by decide +kernel
theorem eM6:((cX5 3 3 0).all fun m=>bX6 3 (aB5 3 5 (aX7 3 (rM m))))=true:=by decide +kernel
theorem eM5:((cX5 4 4 0).all fun m=>bX6 4 (aB5 4 6 (aX7 4 (rM m))))=true:=by decide +kernel
theorem eM4:((cX5 5 5 0).all fun m=>bX6 5 (aB5 5 7 (aX7 5 (rM m))))=true:=by decide +kernel
theorem dE7 {n:Nat} (h2:2≤n) (h5:n≤5):∀ m∈cX5 n n 0,bX6 n (aB5 n (n+2) (aX7 n (rM m)))=true:=by
 rcases ((eS9 h5 h2):n=2∨n=3∨n=4∨n=5) with rfl | rfl | rfl | rfl
 ·exact List.all_eq_true.mp eM7
 ·exact List.all_eq_true.mp eM6
 ·exact List.all_eq_true.mp eM5
 ·exact List.all_eq_true.mp eM4
theorem cD7 (n:Nat) (m:Nat→Nat) (h1:∀ f,f < n→f≤m f∧m f≤n) (h2:∀ f,f+1 < n→m f≤m (f+1)):∀ (k f lo:Nat),f+k=n→(k≠0→lo≤m f)→(List.range' f k).map m∈cX5 n k lo
 | 0,_,_,_,_=>by rw [cX5];exact .head _
 | k+1,f,lo,hf,hlo=>by
  have h:=h1 f (bH6 (bQ7 (dV6 hf)))
  rw [cX5,List.range'_succ,List.map_cons]
  have hM:max lo (n - (k+1))≤m f:=Nat.max_le.mpr ⟨hlo (dA6 dV2),aA9 (Nat.le_of_eq (by rw [← hf];exact Nat.add_sub_cancel _ _)) h.1⟩
  exact List.mem_flatMap.mpr ⟨m f,List.mem_range'_1.mpr ⟨hM,eO4 (aA9 hM h.2) h.2⟩,List.mem_map.mpr ⟨_,cD7 n m h1 h2 k (f+1) (m f) (by lia) (fun hk=>h2 f (by lia)),rfl⟩⟩
theorem eQ1 {n:Nat} (r:Nat→Bool) (mono:∀ l,r l=true→r (l+1)=true):∀ k f,f+k=n→∃ v,f≤v∧v≤n∧∀ l,f≤l→l < n→(r l=true↔v≤l)
 | 0,f,h=>⟨n,dV6 h,cL0,fun l h1 h2=>by lia⟩
 | k+1,f,h=>by
  by_cases q:r f=true
  ·refine ⟨f,cL0,bB7 (dV6 h),fun l h1 h2=>⟨fun _=>h1,fun _=>?_⟩⟩
   obtain ⟨d,rfl⟩:=Nat.exists_eq_add_of_le h1
   have all:∀ d,r (f+d)=true:=fun d=>by
    induction d with
    | zero=>exact q
    | succ d ih=>exact mono _ ih
   exact all d
  ·obtain ⟨v,h1,h2,h3⟩:=eQ1 (n:=n) r mono k (f+1) (by lia)
   refine ⟨v,bB7 h1,h2,fun l h4 h5=>?_⟩
   by_cases e:l=f
   ·subst e
    exact ⟨fun z=>absurd z q,fun z=>by lia⟩
   ·exact h3 l (by lia) h5
theorem rch_mono {ps:List (Nat × Nat)}:(∀ f l,rch ps f l=true→rch ps f (l+1)=true)∧∀ f l,rch ps (f+1) l=true→rch ps f l=true:=by
 constructor
 ·intro f l h
  obtain ⟨p,hp,q⟩:=List.any_eq_true.mp h
  simp only [Bool.and_eq_true,decide_eq_true_eq] at q
  exact List.any_eq_true.mpr ⟨p,hp,by simp only [Bool.and_eq_true,decide_eq_true_eq];exact aV7 q.1 (aO0 q.2)⟩
 ·intro f l h
  obtain ⟨p,hp,q⟩:=List.any_eq_true.mp h
  simp only [Bool.and_eq_true,decide_eq_true_eq] at q
  exact List.any_eq_true.mpr ⟨p,hp,by simp only [Bool.and_eq_true,decide_eq_true_eq];exact aV7 (bB7 q.1) q.2⟩
theorem dF0 (n:Nat) (ps:List (Nat × Nat)):∃ m∈cX5 n n 0,∀ f l,f≤l→l < n→rch ps f l=rM m f l:=by
 have h:∀ f,∃ v,f < n→f≤v∧v≤n∧∀ l,f≤l→l < n→(rch ps f l=true↔v≤l):=by
  intro f
  by_cases q:f < n
  ·obtain ⟨v,hv⟩:=eQ1 (n:=n) (rch ps f) (rch_mono.1 f) (n - f) f (eK6 q)
   exact ⟨v,fun _=>hv⟩
  ·exact ⟨0,fun z=>absurd z q⟩
 obtain ⟨m,hm⟩:∃ m:Nat→Nat,∀ f,f < n→f≤m f∧m f≤n∧∀ l,f≤l→l < n→(rch ps f l=true↔m f≤l):=⟨fun f=>Classical.choose (h f),fun f=>Classical.choose_spec (h f)⟩
 refine ⟨(List.range' 0 n).map m,cD7 n m (fun f hf=>⟨(hm f hf).1,(hm f hf).2.1⟩) (fun f hf=>?_) n 0 0 (dP1 dV5) (fun _=>Nat.zero_le _),fun f l h1 h2=>?_⟩
 ·have a:=hm f (bH6 hf)
  have b:=hm (f+1) hf
  by_cases q:m (f+1)=n
  ·exact aA9 a.2.1 (dA7 q)
  ·have hlt:m (f+1) < n:=by lia
   have:=(b.2.2 (m (f+1)) b.1 hlt).mpr (Nat.le_refl _)
   exact (a.2.2 (m (f+1)) (bB7 b.1) hlt).mp (rch_mono.2 f _ this)
 ·have a:=(hm f (aL3 h1 h2)).2.2 l h1 h2
  have e:((List.range' 0 n).map m).getD f 0=m f:=by
   rw [List.getD_eq_getElem?_getD,List.getElem?_map,List.getElem?_range' (aL3 h1 h2)]
   simp
  unfold rM
  rw [e,Bool.eq_iff_iff,a,decide_eq_true_eq]
theorem bX4 {n:Nat} {r q:Nat→Nat→Bool} (h:∀ f l,f≤l→l < n→r f l=q f l):aX7 n r=aX7 n q:=by
 unfold aX7
 rw [List.flatMap_def,List.flatMap_def]
 congr 1
 refine List.map_congr_left fun f hf=>?_
 have hf':=List.mem_range.mp hf
 congr 1
 refine List.filter_congr fun l hl=>?_
 have hl':=List.mem_range'_1.mp hl
 unfold lc
 rw [h f l hl'.1 (cO6 hl'.1 hl'.2),h (f - 1) l (cA7 hl'.1) (cO6 hl'.1 hl'.2)]
 by_cases e:l=n - 1
 ·rw [decide_eq_true e,Bool.true_or,Bool.true_or]
 ·rw [h f (l+1) (aO0 hl'.1) (eS8 (cO6 hl'.1 hl'.2) e)]
theorem bE8 {n:Nat} {r:Nat→Nat→Bool}:∀ p∈aX7 n r,p.1≤p.2∧p.2 < n:=by
 intro p hp
 obtain ⟨f,hf,q⟩:=List.mem_flatMap.mp hp
 obtain ⟨l,hl,rfl⟩:=List.mem_map.mp q
 have hf':=List.mem_range.mp hf
 have hl':=List.mem_range'_1.mp (List.mem_filter.mp hl).1
 exact ⟨hl'.1,by show l < n;exact cO6 hl'.1 hl'.2⟩
theorem bC5 {α β:Type} (g:α→List β) (k:Nat):∀ l:List α,(∀ x∈l,(g x).length≤k)→(l.flatMap g).length≤l.length*k
 | [],_=>by simp
 | a::l,h=>by
  have h1:=h a (.head _)
  have h2:=bC5 g k l fun x hx=>h x (.tail _ hx)
  rw [List.flatMap_cons,List.length_append,List.length_cons,Nat.add_mul]
  exact eT8 h1 h2
theorem bE9 {n:Nat} {r:Nat→Nat→Bool} (hn:n≤7):(aX7 n r).length≤49:=by
 have:=bC5 (fun f=>((List.range' f (n - f)).filter (lc n r f)).map fun l=>(f,l)) 7 (List.range n) (by
  intro f _
  rw [List.length_map]
  have:=List.length_filter_le (lc n r f) (List.range' f (n - f))
  rw [List.length_range'] at this
  exact eR3 hn this)
 rw [List.length_range] at this
 unfold aX7
 lia
theorem cG1 {n:Nat} (h2:2≤n) (h5:n≤5) (ps:List (Nat × Nat)):bX6 n (aB5 n (n+2) (aJ4 n ps))=true:=by
 obtain ⟨m,hm,e⟩:=dF0 n ps
 unfold aJ4
 rw [bX4 e]
 exact dE7 h2 h5 m hm
end Mine
end
section
open PySem PySem.W PyProof.Rows PySem.Calls PySem.Spec
set_option autoImplicit false
set_option maxRecDepth 100000
namespace Mine
noncomputable def cK9 (n:Nat) (r:Nat→Nat→Bool) (f l:Nat):List (Nat × Nat):=((List.range' f (l - f)).filter (lc n r f)).map fun l=>(f,l)
noncomputable def bP4 (n:Nat) (r:Nat→Nat→Bool) (f:Nat):List (Nat × Nat):=(List.range f).flatMap fun f=>cK9 n r f n
theorem eD6 {Γ:List Fn} {a b:IE} {tr:Bool} {ρ:Ro} {x y:Bool} (h1:ev Γ a tr ρ=some (.bool x)) (h2:x=false→ev Γ b tr ρ=some (.bool y)):ev Γ (.bools false (.cons a (.cons b .nil))) tr ρ=some (.bool (x || y)):=by
 show (ev _ a _ _).bind _=_;rw [h1,aC1]
 cases x with
 | true=>rfl
 | false =>
  (dsimp only [bD1];rw [aC1])
  show (ev _ b _ _).bind _=_;rw [h2 rfl]
  rfl
theorem cY8 {Γ:List Fn} {a b c:IT} {ρ:Ro} {x y z:Bool} (h1:tst Γ a ρ=some x) (h2:tst Γ b ρ=some y) (h3:tst Γ c ρ=some z):tst Γ (.bools true (.cons a (.cons b (.cons c .nil)))) ρ=some (x&&y&&z):=by
 show (tst _ a _).bind _=_;rw [h1,aC1]
 cases x with
 | false=>rfl
 | true =>
  rw [if_pos rfl];show (tst _ b _).bind _=_;rw [h2,aC1]
  cases y with
  | false=>rfl
  | true =>
   (rw [if_pos rfl];dsimp only [aP5];rw [h3,aC1])
   cases z<;>rfl
theorem dK3 {Γ:List Fn} {a b:IE} {tr:Bool} {ρ:Ro} {x y:Int} (h1:ev Γ a true ρ=some (.int x)) (h2:ev Γ b true ρ=some (.int y)):ev Γ (.cmp .eq a b) tr ρ=some (.bool (decide (x=y))):=bK3 h1 h2 (bA2 x y)
theorem aT1 {Γ:List Fn} {a b:IE} {tr:Bool} {ρ:Ro} {x y:Int} (h1:ev Γ a tr ρ=some (.int x)) (h2:ev Γ b tr ρ=some (.int y)):ev Γ (.bin .sub a b) tr ρ=some (.int (x - y)):=aE8 h1 h2 rfl
theorem bX5 {Γ:List Fn} {a b c:IE} {tr:Bool} {ρ:Ro} {n:Nat} {r:Nat→Nat→Bool} {i j:Nat} {x y:Int} (h:ev Γ a tr ρ=some (aF5 n r)) (h1:ev Γ b tr ρ=some (.int x)) (h2:ev Γ c tr ρ=some (.int y)) (e1:x=(i:Int)) (e2:y=(j:Int)) (hi:i < n) (hj:j < n) (hn:n≤1000) :
  ev Γ (.idx (.idx a b) c) tr ρ=some (.bool (decide (i≤j)&&r i j)):=by
 subst e1 e2
 exact aF7 (aF7 h h1 (aG3 hi hn)) h2 (aG3 hj hn)
theorem dR1 (n:Nat) (r:Nat→Nat→Bool) (hn:n≤7):bN1 [aF5 n r]=some (.lst (aA6 (aX7 n r))):=by
 refine (aH5 (by rfl)).trans ?_
 show (aD7 aX aX8 [(0,.dat (aF5 n r))]).bind aC5=_
 unfold aX8
 have e1:run aX (.asg 1 (.len (.var 0))) [(0,.dat (aF5 n r))]=some (.next [(0,.dat (aF5 n r)),(1,.dat (.int (n:Int)))]) :=
  aD1 (aQ8 (ds:=(List.range n).map fun f=>aR4 n fun l=>.bool (decide (f≤l)&&r f l)) (aA1 rfl) (by simp) (aA9 hn (cl rfl)))
 rw [aA4 e1,aA4 aI2]
 have rowlen:∀ f l,l≤n→(cK9 n r f l).length≤7:=by
  intro f l hl
  unfold cK9
  rw [List.length_map]
  have:=List.length_filter_le (lc n r f) (List.range' f (l - f))
  rw [List.length_range'] at this
  exact eR2 hn hl this
 have uplen:∀ f,f≤n→(bP4 n r f).length≤49:=by
  intro f hf
  have:=bC5 (fun f=>cK9 n r f n) 7 (List.range f) (fun k _=>rowlen k n (Nat.le_refl _))
  rw [List.length_range] at this
  unfold bP4
  lia
 refine hid fun Gz zz=>?_
 obtain ⟨aq,e4,i0,i1,i2⟩:=aK6 (Γ:=aX) (i:=3) (a:=.var 1) (n:=n) (ρ:=aA2 [(0,.dat (aF5 n r)),(1,.dat (.int (n:Int)))] 2 (.own (.lst [])))
  (body:=(.cons (.for1 4 (.rng2 (.var 3) (.var 1))
   (.cons (.asg 5 (.bools false (.cons (.cmp .eq (.var 3) (.int 0)) (.cons (.idx (.idx (.var 0) (.bin .sub (.var 3) (.int 1))) (.var 4)) .nil))))
   (.cons (.asg 6 (.bools false (.cons (.cmp .eq (.var 4) (.bin .sub (.var 1) (.int 1))) (.cons (.idx (.idx (.var 0) (.var 3)) (.bin .add (.var 4) (.int 1))) .nil))))
   (.cons (.ite (.bools true (.cons (.tr (.var 5)) (.cons (.tr (.var 6)) (.cons (.not (.tr (.idx (.idx (.var 0) (.var 3)) (.var 4)))) .nil))))
    (.cons (.app 2 (.tup (.cons (.var 3) (.cons (.var 4) .nil))))
    .nil)
    .nil)
   .nil))))
  .nil))
  (fun f ρ=>ρ.lookup 0=some (.dat (aF5 n r))∧ρ.lookup 1=some (.dat (.int (n:Int)))∧ρ.lookup 2=some (.own (.lst (aA6 (bP4 n r f)))))
  (aA1 rfl) (aA9 hn (cl rfl)) ⟨rfl,rfl,rfl⟩ (by
   rintro f hf ρ ⟨h0,h1,h2⟩
   refine hid fun Gz zz=>?_
   obtain ⟨aq,e4,i0,i1,i3,i2⟩:=bF6 (Γ:=aX) (i:=4) (a:=.var 3) (b:=.var 1) (m:=f) (n:=n) (ρ:=aA2 ρ 3 (.dat (.int (f:Int))))
    (body:=(.cons (.asg 5 (.bools false (.cons (.cmp .eq (.var 3) (.int 0)) (.cons (.idx (.idx (.var 0) (.bin .sub (.var 3) (.int 1))) (.var 4)) .nil))))
     (.cons (.asg 6 (.bools false (.cons (.cmp .eq (.var 4) (.bin .sub (.var 1) (.int 1))) (.cons (.idx (.idx (.var 0) (.var 3)) (.bin .add (.var 4) (.int 1))) .nil))))
     (.cons (.ite (.bools true (.cons (.tr (.var 5)) (.cons (.tr (.var 6)) (.cons (.not (.tr (.idx (.idx (.var 0) (.var 3)) (.var 4)))) .nil))))
      (.cons (.app 2 (.tup (.cons (.var 3) (.cons (.var 4) .nil))))
      .nil)
      .nil)
     .nil))))
    (fun l ρ=>ρ.lookup 0=some (.dat (aF5 n r))∧ρ.lookup 1=some (.dat (.int (n:Int)))∧ρ.lookup 3=some (.dat (.int (f:Int)))∧ρ.lookup 2=some (.own (.lst (aA6 (bP4 n r f++cK9 n r f l)))))
    (aA1 (aA3 _ _ _)) (aA1 ((aA0 (by decide)).trans h1)) (bL8 hf) (aA9 hn (cl rfl)) ⟨(aA0 (by decide)).trans h0,(aA0 (by decide)).trans h1,aA3 _ _ _,by rw [aA0 (by decide),h2];simp [cK9]⟩ (by
     rintro l hfl hl ρ ⟨h0,h1,h3,h2⟩
     have l0:(aA2 ρ 4 (.dat (.int (l:Int)))).lookup 0=some (.dat (aF5 n r)):=(aA0 (by decide)).trans h0
     have l1:(aA2 ρ 4 (.dat (.int (l:Int)))).lookup 1=some (.dat (.int (n:Int))):=(aA0 (by decide)).trans h1
     have l2:(aA2 ρ 4 (.dat (.int (l:Int)))).lookup 2=some (.own (.lst (aA6 (bP4 n r f++cK9 n r f l)))):=(aA0 (by decide)).trans h2
     have l3:(aA2 ρ 4 (.dat (.int (l:Int)))).lookup 3=some (.dat (.int (f:Int))):=(aA0 (by decide)).trans h3
     have l4:(aA2 ρ 4 (.dat (.int (l:Int)))).lookup 4=some (.dat (.int (l:Int))):=aA3 _ _ _
     generalize aQ:aA2 ρ 4 (.dat (.int (l:Int)))=ae at l0 l1 l2 l3 l4
     have e5:ev aX (.bools false (.cons (.cmp .eq (.var 3) (.int 0)) (.cons (.idx (.idx (.var 0) (.bin .sub (.var 3) (.int 1))) (.var 4)) .nil))) false ae=some (.bool (decide (f=0) || r (f - 1) l)):=by
      rw [eD6 (y:=r (f - 1) l) (dK3 (aA1 l3) aB7) fun q=>?_]
      ·congr 3
       by_cases q:f=0<;>simp [q]
      ·have hf0:f≠0:=by simpa using q
       rw [bX5 (i:=f - 1) (j:=l) (aA1 l0) (aT1 (aA1 l3) aB7) (aA1 l4) (eP7 (eO3 hf0)) rfl (eK1 hf) hl (aA9 hn (cl rfl)),decide_eq_true (cA7 hfl),Bool.true_and]
     rw [aA4 (aD1 e5)]
     generalize bh:aA2 ae 5 _=aq
     have m0:aq.lookup 0=some (.dat (aF5 n r)):=lkT bh ((aA0 (by decide)).trans l0)
     have m1:aq.lookup 1=some (.dat (.int (n:Int))):=lkT bh ((aA0 (by decide)).trans l1)
     have m2:aq.lookup 2=some (.own (.lst (aA6 (bP4 n r f++cK9 n r f l)))):=lkT bh ((aA0 (by decide)).trans l2)
     have m3:aq.lookup 3=some (.dat (.int (f:Int))):=lkT bh ((aA0 (by decide)).trans l3)
     have m4:aq.lookup 4=some (.dat (.int (l:Int))):=lkT bh ((aA0 (by decide)).trans l4)
     have m5:aq.lookup 5=some (.dat (.bool (decide (f=0) || r (f - 1) l))):=lkT bh (aA3 _ _ _)
     have e6:ev aX (.bools false (.cons (.cmp .eq (.var 4) (.bin .sub (.var 1) (.int 1))) (.cons (.idx (.idx (.var 0) (.var 3)) (.bin .add (.var 4) (.int 1))) .nil))) false aq=some (.bool (decide (l=n - 1) || r f (l+1))):=by
      rw [eD6 (y:=r f (l+1)) (dK3 (aA1 m4) (aT1 (aA1 m1) aB7)) fun q=>?_]
      ·congr 3
       by_cases q:l=n - 1
       ·rw [decide_eq_true q,decide_eq_true (eW9 hl q)]
       ·rw [decide_eq_false q,decide_eq_false (by lia)]
      ·have hl1:l≠n - 1:=by
        intro z
        have:=of_decide_eq_false q
        lia
       rw [bX5 (i:=f) (j:=l+1) (aA1 m0) (aA1 m3) (aL0 (aA1 m4) aB7) rfl (by lia) hf (by lia) (aA9 hn (cl rfl)),decide_eq_true (aO0 hfl),Bool.true_and]
     rw [aA4 (aD1 e6)]
     generalize bt:aA2 aq 6 _=aG
     have k0:aG.lookup 0=some (.dat (aF5 n r)):=lkT bt ((aA0 (by decide)).trans m0)
     have k1:aG.lookup 1=some (.dat (.int (n:Int))):=lkT bt ((aA0 (by decide)).trans m1)
     have k2:aG.lookup 2=some (.own (.lst (aA6 (bP4 n r f++cK9 n r f l)))):=lkT bt ((aA0 (by decide)).trans m2)
     have k3:aG.lookup 3=some (.dat (.int (f:Int))):=lkT bt ((aA0 (by decide)).trans m3)
     have k4:aG.lookup 4=some (.dat (.int (l:Int))):=lkT bt ((aA0 (by decide)).trans m4)
     have k5:aG.lookup 5=some (.dat (.bool (decide (f=0) || r (f - 1) l))):=lkT bt ((aA0 (by decide)).trans m5)
     have k6:aG.lookup 6=some (.dat (.bool (decide (l=n - 1) || r f (l+1)))):=lkT bt (aA3 _ _ _)
     have et:tst aX (.bools true (.cons (.tr (.var 5)) (.cons (.tr (.var 6)) (.cons (.not (.tr (.idx (.idx (.var 0) (.var 3)) (.var 4)))) .nil)))) aG=some (lc n r f l):=by
      refine cY8 (aW6 (aA1 k5)) (aW6 (aA1 k6)) ?_
      show (tst _ _ _).map _=_;rw [aW6 (bX5 (i:=f) (j:=l) (aA1 k0) (aA1 k3) (aA1 k4) rfl rfl hf hl (aA9 hn (cl rfl))),decide_eq_true hfl,Bool.true_and]
      rfl
     have hrow:cK9 n r f (l+1)=cK9 n r f l++if lc n r f l=true then [(f,l)] else []:=by
      unfold cK9
      rw [show l+1 - f=(l - f)+1 from cO5 hfl,List.range'_concat,Nat.one_mul,show f+(l - f)=l from dP1 hfl,List.filter_append,List.map_append]
      cases h:lc n r f l<;>simp [h]
     have b1:=uplen f (bL8 hf)
     have b2:=rowlen f l (bL8 hl)
     cases hc:lc n r f l with
     | false =>
      rw [hc] at et
      rw [aC7 (by (rw [aF2 et];dsimp only [aD7]))]
      refine ⟨_,rfl,k0,k1,k3,?_⟩
      rw [hrow,hc,if_neg (by decide),List.append_nil]
      exact k2
     | true =>
      rw [hc] at et
      have ep:ev aX (.tup (.cons (.var 3) (.cons (.var 4) .nil))) false aG=some (.tup [.int (f:Int),.int (l:Int)]):=by
       (dsimp only [ev,evs];simp only [k3,k4,aC1,bO9])
       rw [if_pos (by simp [lim])]
      rw [aC7 (Eq.trans (aI3 et) ((aC7 (aR9 k2 ep (by simp;exact aX4 b1 b2 rfl)))))]
      refine ⟨_,rfl,(aA0 (by decide)).trans k0,(aA0 (by decide)).trans k1,(aA0 (by decide)).trans k3,?_⟩
      rw [aA3,hrow,hc,if_pos rfl]
      simp [aA6])
   refine zz ?_;clear zz Gz
   rw [aC7 e4]
   refine ⟨_,rfl,i0,i1,?_⟩
   rw [i2]
   unfold bP4
   rw [List.range_succ,List.flatMap_append,List.flatMap_singleton])
 refine zz ?_;clear zz Gz
 rw [aA4 e4,aA4 (aF3 i2),aE0 (aF6 (aA1 (aA3 _ _ _)))]
 rfl
theorem bV5 {Γ:List Fn} {a b:IT} {ρ:Ro} (h1:tst Γ a ρ=some false) (h2:tst Γ b ρ=some false):tst Γ (.bools false (.cons a (.cons b .nil))) ρ=some false:=by
 show (tst _ a _).bind _=_;rw [h1];show (tst _ b _).bind _=_;rw [h2];rfl
theorem dA5 {n:Nat} (r:Nat→Nat→Bool) (h:0 < n):bG5 .eq (aF5 n r) (.lst [])=some false:=by
 have e1:aB0 4 (aF5 n r)=true:=by
  unfold aF5
  (dsimp only [aB0])
  have inner:∀ (l:List Nat) (g:Nat→Bool),aF4 2 (l.map fun k=>D.bool (g k))=true:=by
   intro l g
   induction l with
   | nil=>rfl
   | cons a l ih=>(rw [List.map_cons];dsimp only [aF4];rw [ih];dsimp only [aB0]);rfl
  have outer:∀ (l:List Nat),aF4 3 (l.map fun f=>aR4 n fun k=>.bool (decide (f≤k)&&r f k))=true:=by
   intro l
   induction l with
   | nil=>rfl
   | cons a l ih=>(rw [List.map_cons];dsimp only [aF4];rw [ih];dsimp only [aB0];rw [inner]);rfl
  exact outer _
 show (if aB0 4 (aF5 n r)&&aB0 4 (.lst []) then some (PyData.eqv (pd (aF5 n r)) (pd (.lst []))) else eqX (aF5 n r) (.lst []))=_
 rw [e1,if_pos (by rfl)]
 cases n with
 | zero=>exact absurd h (by decide)
 | succ n =>
  unfold aF5
  rw [aR4,List.range_succ_eq_map,List.map_cons]
  rfl
theorem dB5 {n:Nat} {w:Nat→List Nat} (W:Ws n w) (h0:0 < n) (hn:n≤7) (ps:List (Nat × Nat)) (hps:∀ p∈ps,p.1≤p.2∧p.2 < n) (hpl:ps.length≤100) :
  aS6 [aB8 n w,bH2 n w,.lst (aA6 ps)]=some (.lst ((aB5 n (n+2) (aJ4 n ps)).map fun p=>.lst (aA6 p))):=by
 refine (aH5 (by rfl)).trans ?_
 show (aD7 aS aU0 [(0,.dat (aB8 n w)),(1,.dat (bH2 n w)),(2,.dat (.lst (aA6 ps)))]).bind aC5=_
 unfold aU0
 rw [aA4 aI2]
 have snoc:∀ k q,aB5 n (k+1) q=aB5 n k q++[Nat.rec q (fun _ p=>aJ4 n p) k]:=by
  intro k
  induction k with
  | zero=>intro q;rfl
  | succ k ih =>
   intro q
   have e:∀ k q,(Nat.rec q (fun _ p=>aJ4 n p) (k+1):List (Nat × Nat))=Nat.rec (aJ4 n q) (fun _ p=>aJ4 n p) k:=by
    intro k
    induction k with
    | zero=>intro q;rfl
    | succ k ih=>intro q;exact congrArg (aJ4 n) (ih q)
   rw [e k q,aB5,ih (aJ4 n q)]
   rfl
 have klen:∀ k q,(aB5 n k q).length=k:=by
  intro k
  induction k with
  | zero=>intro q;rfl
  | succ k ih=>intro q;rw [aB5,List.length_cons,ih]
 obtain ⟨aq,e4,i0,i1,i2,i3⟩:=aK6 (Γ:=aS) (i:=4) (a:=.bin .add (.len (.var 0)) (.int 2)) (n:=n+2) (ρ:=aA2 [(0,.dat (aB8 n w)),(1,.dat (bH2 n w)),(2,.dat (.lst (aA6 ps)))] 3 (.own (.lst [])))
  (body:=(.cons (.asg 5 (.call 0 (.cons (.var 0) (.cons (.var 1) (.cons (.var 2) .nil)))))
  (.cons (.ite (.cmp .eq (.var 5) (.list (.nil)))
   (.cons (.ret (.list (.nil)))
   .nil)
   .nil)
  (.cons (.asg 2 (.call 1 (.cons (.var 5) .nil)))
  (.cons (.app 3 (.var 2))
  .nil)))))
  (fun k ρ=>ρ.lookup 0=some (.dat (aB8 n w))∧ρ.lookup 1=some (.dat (bH2 n w))∧(∃ qs:List (Nat × Nat),ρ.lookup 2=some (.dat (.lst (aA6 qs)))∧(∀ p∈qs,p.1≤p.2∧p.2 < n)∧qs.length≤100∧aJ4 n qs=Nat.rec (aJ4 n ps) (fun _ p=>aJ4 n p) k) ∧
   ρ.lookup 3=some (.own (.lst ((aB5 n k (aJ4 n ps)).map fun p=>.lst (aA6 p)))))
  (by
   have:=bG0 (Γ:=aS) (tr:=true) (ρ:=aA2 [(0,.dat (aB8 n w)),(1,.dat (bH2 n w)),(2,.dat (.lst (aA6 ps)))] 3 (.own (.lst []))) (a:=.len (.var 0)) (b:=.int 2) (x:=n) (y:=2) (aQ8 (ds:=(List.range n).map fun f=>aR4 n (cell w f)) (aA1 rfl) (by simp) (aA9 hn (cl rfl))) rfl
   exact this) (bJ3 (aA9 hn (cl rfl))) ⟨rfl,rfl,⟨ps,rfl,hps,hpl,rfl⟩,rfl⟩ (by
   rintro k hk ρ ⟨h0',h1,⟨qs,h2,hqs,hql,hrec⟩,h3⟩
   have l0:(aA2 ρ 4 (.dat (.int (k:Int)))).lookup 0=some (.dat (aB8 n w)):=(aA0 (by decide)).trans h0'
   have l1:(aA2 ρ 4 (.dat (.int (k:Int)))).lookup 1=some (.dat (bH2 n w)):=(aA0 (by decide)).trans h1
   have l2:(aA2 ρ 4 (.dat (.int (k:Int)))).lookup 2=some (.dat (.lst (aA6 qs))):=(aA0 (by decide)).trans h2
   have l3:(aA2 ρ 4 (.dat (.int (k:Int)))).lookup 3=some (.own (.lst ((aB5 n k (aJ4 n ps)).map fun p=>.lst (aA6 p)))):=(aA0 (by decide)).trans h3
   generalize aQ:aA2 ρ 4 (.dat (.int (k:Int)))=ae at l0 l1 l2 l3
   have e5:ev aS (.call 0 (.cons (.var 0) (.cons (.var 1) (.cons (.var 2) .nil)))) false ae=some (aF5 n (rch qs)):=by
    (dsimp only [ev,evs];simp only [l0,l1,l2,aC1,bO9])
    exact cF6 W hn qs hqs hql
   rw [aA4 (aD1 e5)]
   have m5:(aA2 ae 5 (.dat (aF5 n (rch qs)))).lookup 5=some (.dat (aF5 n (rch qs))):=aA3 _ _ _
   have ei:run aS (.ite (.cmp .eq (.var 5) (.list (.nil))) (.cons (.ret (.list (.nil))) .nil) .nil) (aA2 ae 5 (.dat (aF5 n (rch qs))))=some (.next (aA2 ae 5 (.dat (aF5 n (rch qs))))):=by
    (rw [aF2 (aD8 (aA1 m5) (y:=.lst []) rfl (dA5 _ h0))];dsimp only [aD7])
   rw [aA4 ei]
   have e2:ev aS (.call 1 (.cons (.var 5) .nil)) false (aA2 ae 5 (.dat (aF5 n (rch qs))))=some (.lst (aA6 (aJ4 n qs))):=by
    (dsimp only [ev,evs];rw [m5])
    exact dR1 n (rch qs) hn
   rw [aA4 (aD1 e2)]
   generalize bt:aA2 (aA2 ae 5 (.dat (aF5 n (rch qs)))) 2 _=aG
   have k0:aG.lookup 0=some (.dat (aB8 n w)):=lkT bt ((aA0 (by decide)).trans ((aA0 (by decide)).trans l0))
   have k1:aG.lookup 1=some (.dat (bH2 n w)):=lkT bt ((aA0 (by decide)).trans ((aA0 (by decide)).trans l1))
   have k2:aG.lookup 2=some (.dat (.lst (aA6 (aJ4 n qs)))):=lkT bt (aA3 _ _ _)
   have k3:aG.lookup 3=some (.own (.lst ((aB5 n k (aJ4 n ps)).map fun p=>.lst (aA6 p)))):=lkT bt ((aA0 (by decide)).trans ((aA0 (by decide)).trans l3))
   rw [aC7 (aR9 k3 (aA1 k2) (by rw [List.length_map,klen];lia))]
   refine ⟨_,rfl,(aA0 (by decide)).trans k0,(aA0 (by decide)).trans k1,⟨aJ4 n qs,(aA0 (by decide)).trans k2,bE8,?_,?_⟩,?_⟩
   ·have:=bE9 (n:=n) (r:=rch qs) hn
    show (aX7 n (rch qs)).length≤100
    exact aA9 this (cl rfl)
   ·rw [hrec]
   ·rw [aA3,snoc k (aJ4 n ps),List.map_append,hrec]
    rfl)
 rw [aA4 e4,aA4 (aF3 i3),aE0 (aF6 (aA1 (aA3 _ _ _)))]
 rfl
end Mine
end
section
open PySem PySem.W PyProof.Rows PySem.Calls PySem.Spec
set_option autoImplicit false
set_option maxRecDepth 100000
namespace Mine
noncomputable def aR5 (n:Nat) (mark:Nat) (p:Nat × Nat):List UInt8:=(List.range n).map fun k=>if p.1≤k∧k≤p.2 then mark.toUInt8 else 0
theorem bS4:∀ xs:List Int,bS5 (xs.map .int)=some xs
 | []=>rfl
 | x::r=>by (rw [List.map_cons];dsimp only [bS5];rw [bS4 r]);rfl
noncomputable def aY8 (n:Nat) (mark:Nat) (p:Nat × Nat):List Int:=(List.range n).map fun k=>if p.1≤k∧k≤p.2 then (mark:Int) else 0
theorem bR5 (n mark:Nat) (ps:List (Nat × Nat)) (hn:n≤7) (hm:mark < 256) (hpl:ps.length≤49):aO6 [.lst (aA6 ps),.int n,.int mark]=some (.bytes ((ps.map (aR5 n mark)).flatten).toArray):=by
 refine (aH5 (by rfl)).trans ?_
 show (aD7 aW aQ1 [(0,.dat (.lst (aA6 ps))),(1,.dat (.int n)),(2,.dat (.int mark))]).bind aC5=_
 dsimp only [aQ1]
 rw [aA4 aI2]
 have flen:∀ l:List (Nat × Nat),(l.flatMap (aY8 n mark)).length≤l.length*7:=fun l=>bC5 (aY8 n mark) 7 l fun p _=>by dsimp only [aY8];simp;exact hn
 have hfor:∃ ae:Ro,run aW (.for2 4 5 (.seq (.var 0)) (.cons (.extd 3 (.comp (.ite (.chain (.var 4) .le (.var 6) .le (.var 5)) (.var 2) (.int 0)) 6 (.rng1 (.var 1)) (.nil))) .nil))
   (aA2 [(0,.dat (.lst (aA6 ps))),(1,.dat (.int n)),(2,.dat (.int mark))] 3 (.own (.lst [])))=some (.next ae) ∧
   ae.lookup 3=some (.own (.lst (((ps.take (aA6 ps).length).flatMap (aY8 n mark)).map .int))):=by
  (dsimp only [run];rw [aX0 (ds:=aA6 ps) (aA1 rfl),aC1])
  obtain ⟨ao,e,h⟩:=aO8 (f:=fun d ρ=>(cK0 4 5 d).bind fun bs=>aD7 aW (.cons (.extd 3 (.comp (.ite (.chain (.var 4) .le (.var 6) .le (.var 5)) (.var 2) (.int 0)) 6 (.rng1 (.var 1)) (.nil))) .nil) (aD2 bs ρ))
   (fun k ρ=>ρ.lookup 1=some (.dat (.int n))∧ρ.lookup 2=some (.dat (.int mark))∧ρ.lookup 3=some (.own (.lst (((ps.take k).flatMap (aY8 n mark)).map .int))))
   (aA6 ps) 0 (aA2 [(0,.dat (.lst (aA6 ps))),(1,.dat (.int n)),(2,.dat (.int mark))] 3 (.own (.lst []))) ⟨rfl,rfl,rfl⟩ (by
    rintro j hj ρ ⟨h1,h2,h3⟩
    rw [Nat.zero_add] at h3 ⊢
    have hj':j < ps.length:=by simpa using hj
    have ed:(aA6 ps)[j]=.tup [.int (ps[j].1:Int),.int (ps[j].2:Int)]:=by simp [aA6]
    rw [ed]
    show ∃ ao,aD7 _ _ (aA2 (aA2 ρ 4 (.dat (.int (ps[j].1:Int)))) 5 (.dat (.int (ps[j].2:Int))))=_∧_
    generalize aQ:aA2 (aA2 ρ 4 (.dat (.int (ps[j].1:Int)))) 5 (.dat (.int (ps[j].2:Int)))=ae
    have l1:ae.lookup 1=some (.dat (.int n)):=lkT aQ ((aA0 (by decide)).trans ((aA0 (by decide)).trans h1))
    have l2:ae.lookup 2=some (.dat (.int mark)):=lkT aQ ((aA0 (by decide)).trans ((aA0 (by decide)).trans h2))
    have l3:ae.lookup 3=some (.own (.lst (((ps.take j).flatMap (aY8 n mark)).map .int))):=lkT aQ ((aA0 (by decide)).trans ((aA0 (by decide)).trans h3))
    have l4:ae.lookup 4=some (.dat (.int (ps[j].1:Int))):=lkT aQ ((aA0 (by decide)).trans (aA3 _ _ _))
    have l5:ae.lookup 5=some (.dat (.int (ps[j].2:Int))):=lkT aQ (aA3 _ _ _)
    have ec:ev aW (.comp (.ite (.chain (.var 4) .le (.var 6) .le (.var 5)) (.var 2) (.int 0)) 6 (.rng1 (.var 1)) (.nil)) false ae=some (.lst ((aY8 n mark ps[j]).map .int)):=by
     rw [aN5 (fun k=>.int (if ps[j].1≤k∧k≤ps[j].2 then (mark:Int) else 0)) (aA1 l1) (aA9 hn (cl rfl)) fun k hk=>?_]
     ·dsimp only [aY8]
      rw [List.map_map]
      rfl
     ·rw [bA9 (bP8 (x:=ps[j].1) (y:=k) (z:=ps[j].2) (aA1 ((aB4 (by decide)).trans (aC6 l4))) (aA1 aD6) (aA1 ((aB4 (by decide)).trans (aC6 l5))))
       (fun _=>aA1 ((aB4 (by decide)).trans (aC6 l2))) (fun _=>aB7)]
      by_cases q:ps[j].1≤k∧k≤ps[j].2
      ·rw [if_pos (by simpa using q),if_pos q]
      ·rw [if_neg (by simpa using q),if_neg q]
    have hfl:=flen (ps.take j)
    have htk:(ps.take j).length≤49:=by simp;exact dZ3 hpl
    have er:run aW (.extd 3 (.comp (.ite (.chain (.var 4) .le (.var 6) .le (.var 5)) (.var 2) (.int 0)) 6 (.rng1 (.var 1)) (.nil))) ae=some (.next (aA2 ae 3 (.own (.lst (((ps.take j).flatMap (aY8 n mark)).map .int++(aY8 n mark ps[j]).map .int))))):=by
     (dsimp only [run];(rw [aE3 l3,aC1,ec,aC1];dsimp only [eD4];rw [if_pos ⟨by rw [List.length_map];dsimp only [lim];lia,by simp [aY8,lim];exact aA9 hn (cl rfl)⟩]))
     rfl
    rw [aC7 er]
    refine ⟨_,rfl,(aA0 (by decide)).trans l1,(aA0 (by decide)).trans l2,?_⟩
    rw [aA3,List.take_add_one,List.getElem?_eq_getElem hj',← List.map_append,List.flatMap_append]
    simp)
  rw [Nat.zero_add] at h
  exact ⟨ao,e,h.2.2⟩
 obtain ⟨ae,e1,h3⟩:=hfor
 rw [aA4 e1]
 rw [List.length_map,List.take_of_length_le (Nat.le_refl _)] at h3
 have hfl:=flen ps
 have eb:ev aW (.bytesOf (.var 3)) false ae=some (.bytes ((ps.map (aR5 n mark)).flatten).toArray):=by
  show (ev _ _ true _).bind _=_
  rw [bF8 h3,aC1]
  simp only [bS4,aC1]
  have hb:∀ x∈ps.flatMap (aY8 n mark),0≤x∧x < 256:=by
   intro x hx
   obtain ⟨p,_,q⟩:=List.mem_flatMap.mp hx
   obtain ⟨k,_,rfl⟩:=List.mem_map.mp q
   split<;>lia
  rw [if_pos ⟨hb,by lia⟩]
  congr 3
  rw [List.map_flatMap,List.flatMap_def]
  congr 1
  refine List.map_congr_left fun p _=>?_
  dsimp only [aY8,aR5]
  rw [List.map_map]
  refine List.map_congr_left fun k _=>?_
  show Nat.toUInt8 (Int.toNat (if _ then _ else _))=_
  split<;>rfl
 rw [aE0 (aF6 eb)]
 rfl
theorem eX3 {q c:Nat} (hq:0 < q) (hc:0 < c):(((q*c:Nat):Int) - 0 - 1) / (c:Int)+1=(q:Int):=by
 obtain ⟨p,rfl⟩:∃ p,q=p+1:=⟨q - 1,(Nat.sub_add_cancel hq).symm⟩
 have e:(((p+1)*c:Nat):Int) - 0 - 1=((c - 1+p*c:Nat):Int):=by
  rw [Int.sub_zero,Nat.succ_mul,Nat.add_comm,← Nat.sub_add_comm hc]
  exact (Int.ofNat_sub (aA9 hc (Nat.le_add_right _ _))).symm
 rw [e,← Int.natCast_ediv,Nat.add_mul_div_right _ _ hc,Nat.div_eq_of_lt (Nat.sub_lt hc Nat.one_pos),Nat.zero_add]
 rfl
theorem cO0 (n q:Nat) (h2:2≤n) (h5:n≤5) (hq:q≤100):cA4 0 ((q*n:Nat):Int) (n:Int)=some ((List.range q).map fun i:Nat=>D.int ((i*n:Nat):Int)):=by
 have gen:∀ (b c:Int),2≤c→c≤5→0≤b→b≤500→∀ m:Nat,(Builtin.Range.rangeSize 0 b c)=m→m≤500→cA4 0 b c=some ((List.range m).map fun i:Nat=>D.int (0+(i:Int)*c)):=by
  intro b c h1 h2 h3 h4 m hm hm5
  dsimp only [cA4]
  have hs:Builtin.Range.small 0 b c=true:=by
   dsimp only [Builtin.Range.small]
   have e1:Builtin.Range.rangeFitsLong 0=true:=by decide
   have e2:Builtin.Range.rangeFitsLong b=true:=by simp only [Builtin.Range.rangeFitsLong,Bool.and_eq_true,decide_eq_true_eq];exact aV7 (cI2 (bA0 rfl) h3) (bB8 h4 (by decide))
   have e3:Builtin.Range.rangeFitsLong c=true:=by simp only [Builtin.Range.rangeFitsLong,Bool.and_eq_true,decide_eq_true_eq];exact aV7 (cI2 (bA0 rfl) h1) (bB8 h2 (by decide))
   have e4:Builtin.Range.rangeFitsLong (Builtin.Range.rangeSize 0 b c)=true:=by rw [hm];simp only [Builtin.Range.rangeFitsLong,Bool.and_eq_true,decide_eq_true_eq];exact aV7 (bA0 rfl) (dE4 hm5 rfl)
   have e5:Builtin.Range.rangeFitsLong (b+(c - 1))=true:=by simp only [Builtin.Range.rangeFitsLong,Bool.and_eq_true,decide_eq_true_eq];lia
   rw [e1,e2,e3,e4,if_pos (by lia),e5,Bool.or_true]
   rfl
  rw [if_pos ⟨cI2 (cX3 dV5) h1,(by decide),(by decide),bB8 h4 (by decide),by lia,bB8 h2 (by decide),hs⟩,hm]
  rfl
 have hz:Builtin.Range.rangeSize 0 ((q*n:Nat):Int) (n:Int)=q:=by
  dsimp only [Builtin.Range.rangeSize]
  have hn:0 < n:=aM7 Nat.two_pos h2
  rw [if_pos (Int.natCast_pos.mpr hn)]
  by_cases hq:0 < q
  ·rw [if_pos (Int.natCast_pos.mpr (Nat.mul_pos hq hn))];exact eX3 hq hn
  ·obtain rfl:=Nat.eq_zero_of_not_pos hq
   rw [Nat.zero_mul];rfl
 have hle:q*n≤500:=aA9 (Nat.mul_le_mul hq h5) ((cl rfl))
 rw [gen _ _ (cX3 h2) (cX3 h5) (bA0 rfl) (cX3 hle) q hz (aA9 hq (cl rfl))]
 refine congrArg some (List.map_congr_left fun i _=>?_)
 rw [Int.zero_add,Int.natCast_mul]
theorem bN3 {Γ ΓN:List Fn} {i:Nat} {it:It} {body:NSs} {ρ:Ro} {ds:List D} (I:Nat→Ro→Prop) (h:bI2 Γ it ρ=some ds) (h0:I 0 ρ)
  (st:∀ k (hk:k < ds.length),∀ ρ,I k ρ→∃ ao,aC8 Γ ΓN body (aA2 ρ i (.dat ds[k]))=some (.next ao)∧I (k+1) ao):∃ ao,runN Γ ΓN (.for1 i it body) ρ=some (.next ao)∧I ds.length ao:=by
 (dsimp only [runN];simp only [h,aC1])
 obtain ⟨ao,e,h'⟩:=aO8 (f:=fun d ρ=>aC8 Γ ΓN body (aD2 [(i,d)] ρ)) I ds 0 ρ h0 fun j hj ρ hI=>by
  rw [Nat.zero_add] at hI ⊢
  exact st j hj ρ hI
 exact ⟨ao,e,by simpa using h'⟩
theorem cB6 (n:Nat):∀ (words:List (List UInt8)),(∀ x∈words,x.length=n)→words.flatten.length=words.length*n∧∀ (i j:Nat) (hi:i < words.length) (hj:j < n),words.flatten[i*n+j]?=words[i][j]?
 | [],_=>⟨by simp,fun i j hi=>absurd hi (Nat.not_lt_zero _)⟩
 | x::words,h=>by
  obtain ⟨h1,h2⟩:=cB6 n words fun y hy=>h y (.tail _ hy)
  have hx:=h x (.head _)
  refine ⟨by rw [List.flatten_cons,List.length_append,h1,hx,List.length_cons,Nat.add_mul];lia,fun i j hi hj=>?_⟩
  rw [List.flatten_cons]
  cases i with
  | zero=>rw [Nat.zero_mul,Nat.zero_add,List.getElem?_append_left (bW3 hx hj)];rfl
  | succ i =>
   rw [Nat.add_mul,Nat.one_mul,List.getElem?_append_right (dO6 (eK5 (dV6 hx))),hx,show i*n+n+j - n=i*n+j from eT9,h2 i j (by simpa using hi) hj]
   rfl
theorem dN6 (A B:List UInt8) (m:Nat) (v:UInt8):(A++(List.replicate (m+1) 0++B)).set (A.length+m) v=A++(List.replicate m 0++v::B):=by
 rw [List.set_append_right _ _ dV3,show A.length+m - A.length=m from dZ4]
 congr 1
 rw [List.replicate_succ',List.append_assoc,List.set_append_right _ _ (by simp),List.length_replicate,Nat.sub_self]
 rfl
noncomputable def eH1 (n:Nat) (words:List (List UInt8)) (k:Nat) (x:List UInt8) (j:Nat):List UInt8:=(words.take k).flatMap List.reverse++(List.replicate (n - j) 0++((x.take j).reverse++List.replicate ((words.length - (k+1))*n) 0))
theorem dN4 (n:Nat) (words:List (List UInt8)) (h2:2≤n) (h5:n≤5) (hw:∀ x∈words,x.length=n) (hl:words.length≤100) :
  aO7 [.bytes words.flatten.toArray,.int n]=some (.bytes (words.flatMap List.reverse).toArray):=by
 obtain ⟨hfl,hfg⟩:=cB6 n words hw
 have hle:words.length*n≤500:=aA9 (Nat.mul_le_mul hl h5) ((cl rfl))
 have hrev:∀ k,k≤words.length→((words.take k).flatMap List.reverse).length=k*n:=by
  intro k hk
  have:∀ l:List (List UInt8),(∀ x∈l,x.length=n)→(l.flatMap List.reverse).length=l.length*n:=by
   intro l
   induction l with
   | nil=>intro _;simp
   | cons a l ih =>
    intro h
    have h1:=h a (.head _)
    have h3:=ih fun x hx=>h x (.tail _ hx)
    rw [List.flatMap_cons,List.length_append,List.length_reverse,h1,h3,List.length_cons,Nat.add_mul];lia
  rw [this _ fun x hx=>hw x (List.mem_of_mem_take hx),List.length_take,Nat.min_eq_left hk]
 refine (bC7 (by rfl)).trans ?_
 show (aC8 aJ aT aQ2 [(0,.dat (.bytes words.flatten.toArray)),(1,.dat (.int n))]).bind aC5=_
 dsimp only [aQ2]
 have elen:∀ ρ:Ro,ρ.lookup 0=some (.dat (.bytes words.flatten.toArray))→ev aJ (.len (.var 0)) true ρ=some (.int ((words.length*n:Nat):Int)):=by
  intro ρ h
  (dsimp only [ev];simp only [h,aC1])
  (dsimp only [eB6];rw [if_pos (by rw [List.size_toArray,hfl];exact dV4 hl h5 rfl),List.size_toArray,hfl])
 have eb:runN aJ aT (.barr 2 (.len (.var 0))) [(0,.dat (.bytes words.flatten.toArray)),(1,.dat (.int n))]=some (.next (aA2 [(0,.dat (.bytes words.flatten.toArray)),(1,.dat (.int n))] 2 (.own (.barr (List.replicate (words.length*n) 0).toArray)))):=by
  (dsimp only [runN])
  rw [elen _ rfl]
  simp only [aC1]
  rw [if_pos ⟨bA0 rfl,i_l (dE4 hle rfl)⟩]
  rfl
 rw [aB1 eb]
 obtain ⟨aq,e4,i0,i1,i2⟩:=bN3 (Γ:=aJ) (ΓN:=aT) (i:=3) (it:=.rng3 (.int 0) (.len (.var 0)) (.var 1)) (ds:=(List.range words.length).map fun i:Nat=>D.int ((i*n:Nat):Int)) (ρ:=aA2 [(0,.dat (.bytes words.flatten.toArray)),(1,.dat (.int n))] 2 (.own (.barr (List.replicate (words.length*n) 0).toArray)))
  (body:=(.cons (.for1 4 (.rng1 (.var 1))
   (.cons (.plain (.setIdx 2 (.bin .sub (.bin .sub (.bin .add (.var 3) (.var 1)) (.int 1)) (.var 4)) (.idx (.var 0) (.bin .add (.var 3) (.var 4)))))
   .nil))
  .nil))
  (fun k ρ=>ρ.lookup 0=some (.dat (.bytes words.flatten.toArray))∧ρ.lookup 1=some (.dat (.int n))∧ρ.lookup 2=some (.own (.barr ((words.take k).flatMap List.reverse++List.replicate ((words.length - k)*n) 0).toArray)))
  (by
   (dsimp only [bI2];rw [elen _ rfl])
   (dsimp only [ev];rw [aC1])
   exact cO0 n words.length h2 h5 hl) ⟨rfl,rfl,by rw [aA3];simp⟩ (by
   rintro k hk ρ ⟨h0,h1,h2'⟩
   have hk':k < words.length:=by simpa using hk
   have hwk:=hw words[k] (List.getElem_mem hk')
   have edk:((List.range words.length).map fun i:Nat=>D.int ((i*n:Nat):Int))[k]=.int ((k*n:Nat):Int):=by simp
   rw [edk]
   have hrk:=hrev k (bL8 hk')
   have hkn:k*n+n≤words.length*n:=by
    have:=Nat.mul_le_mul_right n (show k+1≤words.length from q_s hk')
    rw [Nat.add_mul,Nat.one_mul] at this
    exact this
   obtain ⟨aq,e4,i0,i1,i3,i2⟩:=bN3 (Γ:=aJ) (ΓN:=aT) (i:=4) (it:=.rng1 (.var 1)) (ds:=(List.range n).map fun i:Nat=>D.int (i:Int)) (ρ:=aA2 ρ 3 (.dat (.int ((k*n:Nat):Int))))
    (body:=(.cons (.plain (.setIdx 2 (.bin .sub (.bin .sub (.bin .add (.var 3) (.var 1)) (.int 1)) (.var 4)) (.idx (.var 0) (.bin .add (.var 3) (.var 4)))))
     .nil))
    (fun j ρ=>ρ.lookup 0=some (.dat (.bytes words.flatten.toArray))∧ρ.lookup 1=some (.dat (.int n))∧ρ.lookup 3=some (.dat (.int ((k*n:Nat):Int))) ∧
     ρ.lookup 2=some (.own (.barr (eH1 n words k words[k] j).toArray)))
    (bV9 (aA1 ((aA0 (by decide)).trans h1)) (aA9 h5 (cl rfl))) ⟨(aA0 (by decide)).trans h0,(aA0 (by decide)).trans h1,aA3 _ _ _,by
     rw [aA0 (by decide),h2']
     dsimp only [eH1]
     rw [Nat.sub_zero,List.take_zero,List.reverse_nil,List.nil_append]
     have e:(words.length - k)*n=n+(words.length - (k+1))*n:=by
      rw [show words.length - k=1+(words.length - (k+1)) from eR6 hk',Nat.add_mul,Nat.one_mul]
     rw [e,← List.replicate_append_replicate]⟩ (by
     rintro j hj ρ ⟨h0,h1,h3,h2'⟩
     have hj':j < n:=by simpa using hj
     have edj:((List.range n).map fun i:Nat=>D.int (i:Int))[j]=.int (j:Int):=by simp
     rw [edj]
     have l0:(aA2 ρ 4 (.dat (.int (j:Int)))).lookup 0=some (.dat (.bytes words.flatten.toArray)):=(aA0 (by decide)).trans h0
     have l1:(aA2 ρ 4 (.dat (.int (j:Int)))).lookup 1=some (.dat (.int n)):=(aA0 (by decide)).trans h1
     have l2:(aA2 ρ 4 (.dat (.int (j:Int)))).lookup 2=some (.own (.barr ((words.take k).flatMap List.reverse++(List.replicate (n - j) 0++((words[k].take j).reverse++List.replicate ((words.length - (k+1))*n) 0))).toArray)):=by rw [aA0 (by decide),h2'];rfl
     have l3:(aA2 ρ 4 (.dat (.int (j:Int)))).lookup 3=some (.dat (.int ((k*n:Nat):Int))):=(aA0 (by decide)).trans h3
     have l4:(aA2 ρ 4 (.dat (.int (j:Int)))).lookup 4=some (.dat (.int (j:Int))):=aA3 _ _ _
     generalize aQ:aA2 ρ 4 (.dat (.int (j:Int)))=ae at l0 l1 l2 l3 l4
     have ev1:ev aJ (.idx (.var 0) (.bin .add (.var 3) (.var 4))) false ae=some (.int ((words[k][j]).toNat:Int)):=by
      refine aF7 (aA1 l0) (bG0 (aA1 l3) (aA1 l4)) ?_
      (dsimp only [bJ8];rw [if_pos ⟨bA0 rfl,by lia,by rw [List.size_toArray,hfl];exact aL3 hle (cl rfl)⟩])
      rw [Int.toNat_natCast,List.getElem?_toArray,hfg k j hk' hj',List.getElem?_eq_getElem (bW3 hwk hj')]
      rfl
     have ek:ev aJ (.bin .sub (.bin .sub (.bin .add (.var 3) (.var 1)) (.int 1)) (.var 4)) true ae=some (.int ((k*n+(n - (j+1)):Nat):Int)):=by
      rw [aT1 (aT1 (bG0 (aA1 l3) (aA1 l1)) aB7) (aA1 l4)]
      congr 2
      exact eW1 hj'
     have hlen:((words.take k).flatMap List.reverse++(List.replicate (n - j) 0++((words[k].take j).reverse++List.replicate ((words.length - (k+1))*n) 0))).length=words.length*n:=by
      have e:words.length*n=k*n+n+(words.length - (k+1))*n:=by
       have e1:words.length=k+1+(words.length - (k+1)):=eR4 hk'
       have e2:=congrArg (·*n) e1
       simp only [Nat.add_mul,Nat.one_mul] at e2
       exact e2
      simp only [List.length_append,hrk,List.length_replicate,List.length_reverse,List.length_take,hwk]
      exact eS3 hj' e
     have er:runN aJ aT (.plain (.setIdx 2 (.bin .sub (.bin .sub (.bin .add (.var 3) (.var 1)) (.int 1)) (.var 4)) (.idx (.var 0) (.bin .add (.var 3) (.var 4))))) ae =
       some (.next (aA2 ae 2 (.own (.barr ((words.take k).flatMap List.reverse++(List.replicate (n - (j+1)) 0++(words[k][j]::((words[k].take j).reverse++List.replicate ((words.length - (k+1))*n) 0)))).toArray)))):=by
      (dsimp only [runN];dsimp only [run];(rw [aE3 l2,aC1,ev1,aC1,ek,aC1];dsimp only [aZ2]))
      have hv:=(words[k][j]).toNat_lt
      rw [if_pos ⟨bA0 rfl,by rw [List.size_toArray,hlen];exact eM1 (eS0 h2 hkn),by rw [List.size_toArray,hlen];exact dV4 hl h5 rfl,bA0 rfl,cX4 hv rfl⟩]
      have e1:((((words[k][j]).toNat:Nat):Int).toNat).toUInt8=words[k][j]:=by rw [Int.toNat_natCast];simp
      rw [e1,Int.toNat_natCast,List.setIfInBounds_toArray]
      have:=dN6 ((words.take k).flatMap List.reverse) ((words[k].take j).reverse++List.replicate ((words.length - (k+1))*n) 0) (n - (j+1)) (words[k][j])
      rw [hrk,show n - (j+1)+1=n - j from eR5 hj'] at this
      rw [this]
      rfl
     (rw [aB1 er];dsimp only [aC8])
     refine ⟨_,rfl,(aA0 (by decide)).trans l0,(aA0 (by decide)).trans l1,(aA0 (by decide)).trans l3,?_⟩
     rw [aA3]
     dsimp only [eH1]
     have et:words[k].take (j+1)=words[k].take j++[words[k][j]]:=by
      rw [List.take_add_one,List.getElem?_eq_getElem ((bW3 hwk hj'):j < words[k].length)]
      rfl
     rw [et,List.reverse_append]
     rfl)
   (rw [aB1 e4];dsimp only [aC8])
   refine ⟨_,rfl,i0,i1,?_⟩
   rw [i2]
   dsimp only [eH1]
   rw [List.length_map,List.length_range,Nat.sub_self,List.replicate_zero,List.nil_append,List.take_add_one,List.getElem?_eq_getElem hk',List.flatMap_append,List.take_of_length_le (Nat.le_of_eq hwk)]
   simp)
 rw [aB1 e4]
 rw [List.length_map,List.length_range,Nat.sub_self,Nat.zero_mul,List.replicate_zero,List.append_nil,List.take_of_length_le (Nat.le_refl _)] at i2
 have hr:=hrev words.length (Nat.le_refl _)
 rw [List.take_of_length_le (Nat.le_refl _)] at hr
 have ef:ev aJ (.bytesOf (.var 2)) false aq=some (.bytes (words.flatMap List.reverse).toArray):=by
  show (ev _ _ true _).bind _=_;rw [bF8 i2,aC1]
  show (if _ then _ else _)=_
  rw [if_pos (by rw [List.size_toArray,hr];exact dV4 hl h5 rfl)]
 have er:runN aJ aT (.plain (.ret (.bytesOf (.var 2)))) aq=some (.ret (.bytes (words.flatMap List.reverse).toArray)):=by
  (dsimp only [runN];rw [aF6 ef])
 rw [aX1 er]
 rfl
theorem dJ4 {n i a b:Nat} (h1:a≤b) (h2:b < n) (hi:i < n):(a≤n - 1 - i∧n - 1 - i≤b)↔n - 1 - b≤i∧i≤n - 1 - a:=by
 rw [Nat.le_sub_iff_add_le (Nat.le_sub_one_of_lt hi),Nat.le_sub_iff_add_le (aA9 h1 (Nat.le_sub_one_of_lt h2)),(Nat.sub_le_iff_le_add:n - 1 - i≤b↔n - 1≤b+i),(Nat.sub_le_iff_le_add:n - 1 - b≤i↔n - 1≤i+b),Nat.add_comm a i,Nat.add_comm b i]
 exact And.comm
theorem cY4 (n mark:Nat) {p:Nat × Nat} (h1:p.1≤p.2) (h2:p.2 < n):(aR5 n mark p).reverse=aR5 n mark (n - 1 - p.2,n - 1 - p.1):=by
 dsimp only [aR5]
 apply List.ext_getElem
 ·simp
 ·intro i hi hi'
  have:i < n:=by simpa using hi
  rw [List.getElem_reverse]
  simp only [List.getElem_map,List.getElem_range,List.length_map,List.length_range]
  by_cases q:p.1≤n - 1 - i∧n - 1 - i≤p.2
  ·rw [if_pos q,if_pos ((dJ4 h1 h2 this).mp q)]
  ·rw [if_neg q,if_neg fun z=>q ((dJ4 h1 h2 this).mpr z)]
end Mine
end
section
open PySem PySem.W PyProof.Rows PySem.Calls PySem.Spec
set_option autoImplicit false
set_option maxRecDepth 100000
namespace Mine
noncomputable def pc (w:List Nat):List (List Nat):=if w=[48,57,56] then [[],w,[]] else [w]
theorem dY2 (w:List Nat) (h:w∈baseL):aT5 w [] []=pc w:=by
 simp only [baseL,List.mem_cons,List.not_mem_nil,or_false] at h
 rcases h with rfl | rfl | rfl | rfl | rfl | rfl | rfl<;>rfl
theorem dY1 (w t:List Nat) (h:w∈baseL):aT5 (w++45::t) [] []=pc w++[45]::aT5 t [] []:=by
 simp only [baseL,List.mem_cons,List.not_mem_nil,or_false] at h
 rcases h with rfl | rfl | rfl | rfl | rfl | rfl | rfl<;>rfl
noncomputable def aS4 (v:List Nat):Bool:=decide (v∈baseL)
theorem bM4 (w:List Nat) (h:w∈baseL):(pc w).filter aS4=[w]∧∀ v∈pc w,v=[]∨v∈baseL:=by
 simp only [baseL,List.mem_cons,List.not_mem_nil,or_false] at h
 rcases h with rfl | rfl | rfl | rfl | rfl | rfl | rfl<;>exact ⟨by decide,by decide⟩
theorem eN9:∀ ws:List (List Nat),ws≠[]→(∀ w∈ws,w∈baseL)→(aT5 (J ws) [] []).filter aS4=ws∧∀ v∈aT5 (J ws) [] [],v=[]∨v=[45]∨v∈baseL
 | [],h,_=>absurd rfl h
 | [w],_,h=>by
  have hw:=h w (.head _)
  show (aT5 w [] []).filter aS4=_∧∀ v∈aT5 w [] [],_
  rw [dY2 w hw]
  refine ⟨(bM4 w hw).1,fun v hv=>?_⟩
  rcases (bM4 w hw).2 v hv with q | q
  ·exact .inl q
  ·exact .inr (.inr q)
 | w::x::r,_,h=>by
  have hw:=h w (.head _)
  obtain ⟨i1,i2⟩:=eN9 (x::r) (by simp) fun y hy=>h y (.tail _ hy)
  rw [aN8 _ _ (by simp),dY1 w _ hw]
  constructor
  ·rw [List.filter_append,(bM4 w hw).1,List.filter_cons,if_neg (by decide),i1]
   rfl
  ·intro v hv
   rcases List.mem_append.mp hv with q | q
   ·rcases (bM4 w hw).2 v q with q | q
    ·exact .inl q
    ·exact .inr (.inr q)
   ·rcases List.mem_cons.mp q with q | q
    ·exact .inr (.inl q)
    ·exact i2 v q
theorem eJ6 (w:Nat→List Nat) (n f l:Nat) (hw:∀ k,k < n→w k∈baseL) (h1:f≤l) (h2:l < n) :
  (aT5 (nm w f l) [] []).filter aS4=(List.range' f (l+1 - f)).map w∧∀ v∈aT5 (nm w f l) [] [],v=[]∨v=[45]∨v∈baseL:=by
 have hne:(List.range' f (l+1 - f)).map w≠[]:=by
  intro z
  have:=congrArg List.length z
  simp at this
  lia
 obtain ⟨i1,i2⟩:=eN9 _ hne fun x hx=>by
  obtain ⟨k,hk,rfl⟩:=List.mem_map.mp hx
  exact hw k (by have:=List.mem_range'_1.mp hk;exact bW4 this.1 this.2 h2)
 dsimp only [nm]
 split
 ·exact ⟨i1,i2⟩
 ·have e:∀ t,aT5 ([45]++t) [] []=[]::[45]::aT5 t [] []:=fun t=>rfl
  rw [e]
  refine ⟨(Eq.trans List.filter_cons (Eq.trans (if_neg (by decide)) (Eq.trans List.filter_cons (Eq.trans (if_neg (by decide)) i1)))),fun v hv=>?_⟩
  rcases List.mem_cons.mp hv with q | q
  ·exact .inl q
  ·rcases List.mem_cons.mp q with q | q
   ·exact .inr (.inl q)
   ·exact i2 v q
theorem dD3:(("._+-":String):Str)=S [46,95,43,45]:=by decide +kernel
theorem sep_in:aZ9 (S []) (S [46,95,43,45])=true∧aZ9 (S [45]) (S [46,95,43,45])=true∧∀ v∈baseL,aZ9 (S v) (S [46,95,43,45])=false:=by decide +kernel
theorem cY9:∀ v∈baseL,eG7 (S v)=some (aC9 (aK8 v),.int (cO4 v)):=by
 intro v h
 simp only [baseL,List.mem_cons,List.not_mem_nil,or_false] at h
 rcases h with rfl | rfl | rfl | rfl | rfl | rfl | rfl<;>kernel_rfl
noncomputable abbrev eG6:NSs:=(.cons (.ite (.cmp .notIn (.var 3) (.str "._+-"))
   (.cons (.tryInt 3 4)
   (.cons (.plain (.extd 2 (.tup (.cons (.var 4) (.cons (.var 3) .nil)))))
   .nil))
   .nil)
  .nil)
theorem bZ0:∀ (vs:List (List Nat)) (acc:List D) (ρ:Ro),(∀ v∈vs,v=[]∨v=[45]∨v∈baseL)→acc.length+2*(vs.filter aS4).length≤4000→ρ.lookup 2=some (.own (.lst acc)) →
  ∃ ao,aH0 (fun d ρ=>aC8 am au eG6 (aD2 [(3,d)] ρ)) (aC2 vs) ρ=some (.next ao)∧ao.lookup 2=some (.own (.lst (acc++(vs.filter aS4).flatMap aS0)))
 | [],acc,ρ,_,_,h=>⟨ρ,rfl,by rw [List.filter_nil,List.flatMap_nil,List.append_nil];exact h⟩
 | v::vs,acc,ρ,hv,hl,h=>by
  have l3:(aA2 ρ 3 (.dat (.str (S v)))).lookup 3=some (.dat (.str (S v))):=aA3 _ _ _
  have l2:(aA2 ρ 3 (.dat (.str (S v)))).lookup 2=some (.own (.lst acc)):=(aA0 (by decide)).trans h
  have ht:tst am (.cmp .notIn (.var 3) (.str "._+-")) (aA2 ρ 3 (.dat (.str (S v))))=some (!aZ9 (S v) (S [46,95,43,45])) :=
   aD8 (aA1 l3) (y:=.str (S [46,95,43,45])) (by rw [aH9,dD3]) rfl
  have step:∃ ae:Ro,aC8 am au eG6 (aD2 [(3,.str (S v))] ρ)=some (.next ae)∧ae.lookup 2=some (.own (.lst (acc++if aS4 v=true then aS0 v else []))):=by
   show ∃ ae:Ro,aC8 _ _ eG6 (aA2 ρ 3 (.dat (.str (S v))))=_∧_
   by_cases hb:v∈baseL
   ·have hg:aS4 v=true:=decide_eq_true hb
    rw [sep_in.2.2 v hb] at ht
    have e1:runN am au (.tryInt 3 4) (aA2 ρ 3 (.dat (.str (S v))))=some (.next (aA2 (aA2 (aA2 ρ 3 (.dat (.str (S v)))) 3 (.dat (aC9 (aK8 v)))) 4 (.dat (.int (cO4 v))))):=by
     (dsimp only [runN])
     rw [aA1 l3]
     simp only [aC1]
     rw [cY9 v hb]
     rfl
    generalize aQ:aA2 (aA2 (aA2 ρ 3 (.dat (.str (S v)))) 3 (.dat (aC9 (aK8 v)))) 4 (.dat (.int (cO4 v)))=ae at e1
    have m2:ae.lookup 2=some (.own (.lst acc)):=lkT aQ ((aA0 (by decide)).trans ((aA0 (by decide)).trans l2))
    have m3:ae.lookup 3=some (.dat (aC9 (aK8 v))):=lkT aQ ((aA0 (by decide)).trans (aA3 _ _ _))
    have m4:ae.lookup 4=some (.dat (.int (cO4 v))):=lkT aQ (aA3 _ _ _)
    have ep:ev am (.tup (.cons (.var 4) (.cons (.var 3) .nil))) false ae=some (.tup (aS0 v)):=by
     (dsimp only [ev,evs];simp only [m3,m4,aC1,bO9])
     rw [if_pos (by simp [lim])]
     rfl
    have e2:runN am au (.plain (.extd 2 (.tup (.cons (.var 4) (.cons (.var 3) .nil))))) ae=some (.next (aA2 ae 2 (.own (.lst (acc++aS0 v))))):=by
     (dsimp only [runN];dsimp only [run];(rw [aE3 m2,aC1,ep,aC1];dsimp only [eD4];rw [if_pos ⟨by dsimp only [lim];exact bB7 (aA9 hl (cl rfl)),by simp [aS0,lim]⟩]))
     rfl
    refine ⟨aA2 ae 2 (.own (.lst (acc++aS0 v))),?_,by rw [aA3,if_pos hg]⟩
    (dsimp only [aC8];dsimp only [runN];rw [ht])
    rw [Bool.not_false,aC1,if_pos rfl]
    rw [aB1 e1,aB1 e2]
    (dsimp only [aC8];simp only [aC1])
   ·have hg:aS4 v=false:=decide_eq_false hb
    have hs:aZ9 (S v) (S [46,95,43,45])=true:=by
     rcases hv v (.head _) with q | q | q
     ·rw [q];exact sep_in.1
     ·rw [q];exact sep_in.2.1
     ·exact absurd q hb
    rw [hs] at ht
    refine ⟨_,?_,by rw [l2,hg,if_neg (by decide),List.append_nil]⟩
    (dsimp only [aC8];dsimp only [runN];rw [ht])
    (dsimp only [aC8];rfl)
  obtain ⟨ae,e1,h1⟩:=step
  obtain ⟨aq,e2,h2⟩:=bZ0 vs _ ae (fun x hx=>hv x (.tail _ hx)) (by
   rw [List.filter_cons] at hl
   rw [List.length_append]
   cases hg:aS4 v with
   | true=>rw [hg,if_pos rfl,List.length_cons] at hl;rw [if_pos rfl];simp only [aS0,List.length_cons,List.length_nil];lia
   | false=>rw [hg,if_neg (by decide)] at hl;rw [if_neg (by decide),List.length_nil];exact hl) h1
  refine ⟨aq,?_,?_⟩
  ·(rw [aC2,List.map_cons];dsimp only [aH0];rw [e1])
   exact e2
  ·rw [h2,List.filter_cons]
   cases aS4 v with
   | true=>simp
   | false=>simp
noncomputable def bB0 (w:Nat→List Nat) (f l:Nat):List D:=((List.range' f (l+1 - f)).map w).flatMap aS0
theorem cE5 {n:Nat} {w:Nat→List Nat} (W:Ws n w) (hb:∀ k,k < n→w k∈baseL) (hn:n≤7) {f l:Nat} (h1:f≤l) (h2:l < n):aE9 [.str (S (nm w f l))]=some (.lst (bB0 w f l)):=by
 have hlen:=bE6 W hn (f:=f) h2
 refine (bC7 (by rfl)).trans ?_
 show (aC8 am au aE4 [(0,.dat (.str (S (nm w f l))))]).bind aC5=_
 dsimp only [aE4]
 have e1:runN am au (.plain (.asg 1 .pat)) [(0,.dat (.str (S (nm w f l))))]=some (.next [(0,.dat (.str (S (nm w f l)))),(1,.dat .pat)]):=rfl
 have e2:runN am au (.plain (.own 2 .nil)) [(0,.dat (.str (S (nm w f l)))),(1,.dat .pat)]=some (.next [(0,.dat (.str (S (nm w f l)))),(1,.dat .pat),(2,.own (.lst []))]):=by
  show run _ _ _=_;rw [aI2];rfl
 rw [aB1 e1,aB1 e2]
 obtain ⟨r1,r2⟩:=eJ6 w n f l hb h1 h2
 have es:bI2 am (.seq (.reSplit (.var 1) (.var 0))) [(0,.dat (.str (S (nm w f l)))),(1,.dat .pat),(2,.own (.lst []))]=some (aC2 (aT5 (nm w f l) [] [])):=by
  refine aX0 ?_
  show (ev _ _ _ _).bind _=_;rw [aA1 (d:=.pat) rfl,aC1,aA1 (d:=.str (S (nm w f l))) rfl,aC1]
  show (if _ then _ else _)=_
  rw [if_pos (by rw [aG6];exact aA9 hlen (cl rfl))]
  dsimp only [reSplit]
  rw [List.map_map]
  rfl
 obtain ⟨ae,e3,h3⟩:=bZ0 (aT5 (nm w f l) [] []) [] [(0,.dat (.str (S (nm w f l)))),(1,.dat .pat),(2,.own (.lst []))] r2 (by rw [r1];simp;exact dV4 cL0 (cF8 h2 hn) rfl) rfl
 have ef:runN am au (.for1 3 (.seq (.reSplit (.var 1) (.var 0))) eG6) [(0,.dat (.str (S (nm w f l)))),(1,.dat .pat),(2,.own (.lst []))]=some (.next ae):=by
  (dsimp only [runN])
  rw [es]
  exact e3
 rw [aB1 ef,aB1 (show runN _ _ (.freeze 2) ae=some (.next (aA2 ae 2 (.dat (.lst (bB0 w f l))))) from by
  (dsimp only [runN])
  rw [aE3 h3,r1]
  rfl)]
 have er:runN am au (.plain (.ret (.var 2))) (aA2 ae 2 (.dat (.lst (bB0 w f l))))=some (.ret (.lst (bB0 w f l))):=by
  (dsimp only [runN];rw [aF6 (aA1 (aA3 _ _ _))])
 rw [aX1 er]
 rfl
end Mine
end
section
open PySem PySem.W PyProof.Rows PySem.Calls PySem.Spec
set_option autoImplicit false
set_option maxRecDepth 100000
namespace Mine
noncomputable abbrev Kv:=List (Key × Int)
noncomputable def val (m:Kv) (k:Key):Int:=(dictGet? m k).getD 0
noncomputable def tot (m:Kv):Int:=(m.map (·.2)).sum
noncomputable def aG9 (m:Kv) (p:Key × Int):Kv:=bU9 m p.1 (val m p.1+p.2)
theorem aK5 (q:Key × Int) (m:Kv) (k:Key):dictGet? (q::m) k=if q.1=k then some q.2 else dictGet? m k:=by
 unfold dictGet?
 rw [List.find?_cons]
 by_cases h:q.1=k<;>simp [h]
theorem bY6 (m:Kv) (k:Key):(m.any fun p=>decide (p.1=k))=(dictGet? m k).isSome:=by
 induction m with
 | nil=>rfl
 | cons q m ih =>
  rw [List.any_cons,aK5,ih]
  by_cases h:q.1=k<;>simp [h]
theorem mem_key {m:Kv} {k:Key}:(m.any fun p=>decide (p.1=k))=true↔k∈m.map (·.1):=by
 rw [List.any_eq_true,List.mem_map]
 constructor
 ·rintro ⟨p,hp,e⟩;exact ⟨p,hp,of_decide_eq_true e⟩
 ·rintro ⟨p,hp,e⟩;exact ⟨p,hp,decide_eq_true e⟩
theorem cA9 (m:Kv) (k:Key) (v:Int):(bU9 m k v).map (·.1)=if (m.any fun p=>decide (p.1=k))=true then m.map (·.1) else m.map (·.1)++[k]:=by
 dsimp only [bU9]
 by_cases h:(m.any fun p=>decide (p.1=k))=true
 ·rw [if_pos h,if_pos h,List.map_map]
  refine List.map_congr_left fun p _=>?_
  show (if p.1=k then (p.1,v) else p).1=p.1
  split<;>rfl
 ·rw [if_neg h,if_neg h,List.map_append]
  rfl
theorem bR1 {m:Kv} (h:(m.map (·.1)).Nodup) (k:Key) (v:Int):((bU9 m k v).map (·.1)).Nodup:=by
 rw [cA9]
 split
 ·exact h
 ·rename_i q
  refine List.nodup_append.mpr ⟨h,List.nodup_cons.mpr ⟨List.not_mem_nil,List.nodup_nil⟩,fun a ha b hb=>?_⟩
  rw [List.mem_singleton.mp hb]
  exact fun z=>q (mem_key.mpr (z ▸ ha))
theorem bW5 (m:Kv) (k:Key) (v:Int):(bU9 m k v).length≤m.length+1:=by
 have:=congrArg List.length (cA9 m k v)
 rw [List.length_map] at this
 rw [this]
 split<;>simp
theorem dP2 (m:Kv) (k:Key) (v:Int) (k':Key):val (bU9 m k v) k'=if k'=k then v else val m k':=by
 dsimp only [val,bU9]
 by_cases h:k∈m.map (·.1)
 ·rw [if_pos (mem_key.mpr h)]
  induction m with
  | nil=>cases h
  | cons q m ih =>
   rw [List.map_cons,aK5,aK5]
   by_cases hq:q.1=k
   ·simp only [hq,if_true]
    by_cases hk:k'=k
    ·subst hk;simp
    ·have hk2:¬ k=k':=fun z=>hk z.symm
     simp only [hk,hk2,if_false]
     by_cases hm:k∈m.map (·.1)
     ·have:=ih hm
      rw [if_neg hk] at this
      exact this
     ·have e:m.map (fun p:Key × Int=>if p.1=k then (p.1,v) else p)=m:=by
       rw [List.map_congr_left (g:=id),List.map_id]
       intro p hp
       have:¬ p.1=k:=fun z=>hm (List.mem_map.mpr ⟨p,hp,z⟩)
       rw [if_neg this];rfl
      rw [e]
   ·have hm:k∈m.map (·.1):=by
     rcases List.mem_cons.mp h with z | z
     ·exact absurd z.symm hq
     ·exact z
    have:=ih hm
    simp only [hq,if_false]
    by_cases hk:q.1=k'
    ·have:¬ k'=k:=fun z=>hq (hk.trans z)
     simp [hk,this]
    ·simp only [hk,if_false]
     exact this
 ·rw [if_neg (fun z=>h (mem_key.mp z))]
  induction m with
  | nil =>
   rw [List.nil_append,aK5]
   by_cases hk:k'=k
   ·subst hk;simp
   ·have hk2:¬ k=k':=fun z=>hk z.symm
    simp [hk,hk2]
  | cons q m ih =>
   have hm:k∉m.map (·.1):=fun z=>h (.tail _ z)
   have hq:¬ q.1=k:=fun z=>h (by rw [List.map_cons,z];exact .head _)
   rw [List.cons_append,aK5,aK5]
   by_cases hk:q.1=k'
   ·have:¬ k'=k:=fun z=>hq (hk.trans z)
    simp [hk,this]
   ·simp only [hk,if_false]
    exact ih hm
theorem dP3 {m:Kv} (h:(m.map (·.1)).Nodup) (k:Key) (v:Int):tot (bU9 m k v)=tot m - val m k+v:=by
 dsimp only [tot,bU9]
 by_cases hk:k∈m.map (·.1)
 ·rw [if_pos (mem_key.mpr hk)]
  induction m with
  | nil=>cases hk
  | cons q m ih =>
   have hn:=List.nodup_cons.mp h
   rw [List.map_cons,List.map_cons,List.map_cons,List.sum_cons,List.sum_cons]
   by_cases hq:q.1=k
   ·have hm:k∉m.map (·.1):=fun z=>hn.1 (by show q.1∈m.map (·.1);rw [hq];exact z)
    have e:m.map (fun p:Key × Int=>if p.1=k then (p.1,v) else p)=m:=by
     rw [List.map_congr_left (g:=id),List.map_id]
     intro p hp
     have:¬ p.1=k:=fun z=>hm (List.mem_map.mpr ⟨p,hp,z⟩)
     rw [if_neg this];rfl
    dsimp only [val]
    rw [e,aK5,if_pos hq,if_pos hq]
    simp only [Option.getD_some]
    lia
   ·have hm:k∈m.map (·.1):=by
     rcases List.mem_cons.mp hk with z | z
     ·exact absurd z.symm hq
     ·exact z
    have ih':=ih hn.2 hm
    dsimp only [val] at ih' ⊢
    rw [aK5,if_neg hq,if_neg hq,ih']
    lia
 ·rw [if_neg (fun z=>hk (mem_key.mp z)),List.map_append,List.sum_append]
  have e:dictGet? m k=none:=by
   cases e:dictGet? m k with
   | none=>rfl
   | some x=>exact absurd (mem_key.mp (by rw [bY6,e];rfl)) hk
  dsimp only [val]
  rw [e]
  simp
theorem cW8 (m:Kv) (p:Key × Int) (k:Key):val (aG9 m p) k=val m k+if k=p.1 then p.2 else 0:=by
 dsimp only [aG9]
 rw [dP2]
 by_cases h:k=p.1
 ·subst h;simp
 ·simp [h]
theorem cW9 {m:Kv} (h:(m.map (·.1)).Nodup) (p:Key × Int):tot (aG9 m p)=tot m+p.2:=by
 dsimp only [aG9]
 rw [dP3 h]
 lia
theorem bF0 (k:Key):dD5 (aC9 k)=some k:=by cases k<;>rfl
theorem cA0 {Γ:List Fn} {i:Nat} {ek evl:IE} {ρ:Ro} {m:Kv} {k:Key} {v:Int} (h:ρ.lookup i=some (.own (.dct m))) (h1:ev Γ evl false ρ=some (.int v)) (h2:ev Γ ek true ρ=some (aC9 k)) (hl:m.length≤4000):run Γ (.setIdx i ek evl) ρ=some (.next (aA2 ρ i (.own (.dct (bU9 m k v))))):=by
 (dsimp only [run];(rw [aE3 h,aC1,h1,aC1,h2,aC1];dsimp only [aZ2];rw [if_pos (by dsimp only [lim];exact aA9 hl (cl rfl)),bF0]))
 rfl
theorem bT4:∀ (t m:Kv) (ρ:Ro),((m++t).map (·.1)).Nodup→m.length+t.length≤4000→ρ.lookup 2=some (.own (.dct m)) →
  ∃ ao,aH0 (fun d ρ=>(cK0 3 4 d).bind fun bs=>aD7 aA (.cons (.setIdx 2 (.var 3) (.var 4)) .nil) (aD2 bs ρ)) (aN0 t) ρ=some (.next ao)∧ao.lookup 2=some (.own (.dct (m++t)))∧∀ i,i≠2→i≠3→i≠4→ao.lookup i=ρ.lookup i
 | [],m,ρ,_,_,h=>⟨ρ,rfl,by rw [List.append_nil];exact h,fun _ _ _ _=>rfl⟩
 | q::t,m,ρ,hn,hl,h=>by
  have hk:q.1∉m.map (·.1):=by
   intro z
   rw [List.map_append,List.map_cons] at hn
   exact (List.nodup_append.mp hn).2.2 _ z _ (.head _) rfl
  have hp:bU9 m q.1 q.2=m++[q]:=by
   dsimp only [bU9]
   rw [if_neg (fun z=>hk (mem_key.mp z))]
  simp only [List.length_cons] at hl
  have e1:aD7 aA (.cons (.setIdx 2 (.var 3) (.var 4)) .nil) (aA2 (aA2 ρ 3 (.dat (aC9 q.1))) 4 (.dat (.int q.2)))=some (.next (aA2 (aA2 (aA2 ρ 3 (.dat (aC9 q.1))) 4 (.dat (.int q.2))) 2 (.own (.dct (m++[q]))))):=by
   rw [aC7 (cA0 (m:=m) (k:=q.1) (v:=q.2) ((aA0 (by decide)).trans ((aA0 (by decide)).trans h)) (aA1 (aA3 _ _ _)) (aA1 (by rw [aA0 (by decide),aA3])) (bB7 hl)),hp]
  obtain ⟨ao,e2,h2,h3⟩:=bT4 t (m++[q]) (aA2 (aA2 (aA2 ρ 3 (.dat (aC9 q.1))) 4 (.dat (.int q.2))) 2 (.own (.dct (m++[q])))) (by rw [List.append_assoc];exact hn) (by rw [List.length_append,List.length_singleton];lia) (aA3 _ _ _)
  refine ⟨ao,?_,?_,?_⟩
  ·(rw [aN0,List.map_cons];dsimp only [aH0])
   show (Option.bind (aD7 _ _ (aA2 (aA2 ρ 3 (.dat (aC9 q.1))) 4 (.dat (.int q.2)))) _)=_
   rw [e1]
   exact e2
  ·rw [h2,List.append_assoc];rfl
  ·intro i a b c
   rw [h3 i a b c,aA0 a,aA0 c,aA0 b]
noncomputable abbrev eN4:ISs:=(.cons (.ite (.cmp .in_ (.var 3) (.var 2))
   (.cons (.ite (.tr (.isTup (.var 4)))
    (.cons .dead .nil)
    (.cons (.augIdx 2 (.var 3) .add (.var 4))
    .nil))
   .nil)
   (.cons (.setIdx 2 (.var 3) (.var 4))
   .nil))
  .nil)
theorem cJ5 (k:Key) (m:Kv):bG5 .in_ (aC9 k) (.dct m)=some (m.any fun p=>decide (p.1=k)):=by cases k<;>rfl
theorem cE0:∀ (s m:Kv) (ρ:Ro),m.length+s.length≤4000→ρ.lookup 2=some (.own (.dct m)) →
  ∃ ao,aH0 (fun d ρ=>(cK0 3 4 d).bind fun bs=>aD7 aA eN4 (aD2 bs ρ)) (aN0 s) ρ=some (.next ao)∧ao.lookup 2=some (.own (.dct (s.foldl aG9 m)))
 | [],m,ρ,_,h=>⟨ρ,rfl,h⟩
 | q::s,m,ρ,hl,h=>by
  simp only [List.length_cons] at hl
  generalize aQ:aA2 (aA2 ρ 3 (.dat (aC9 q.1))) 4 (.dat (.int q.2))=ae
  have l2:ae.lookup 2=some (.own (.dct m)):=lkT aQ ((aA0 (by decide)).trans ((aA0 (by decide)).trans h))
  have l3:ae.lookup 3=some (.dat (aC9 q.1)):=lkT aQ ((aA0 (by decide)).trans (aA3 _ _ _))
  have l4:ae.lookup 4=some (.dat (.int q.2)):=lkT aQ (aA3 _ _ _)
  have ht:tst aA (.cmp .in_ (.var 3) (.var 2)) ae=some (m.any fun p=>decide (p.1=q.1)):=aD8 (aA1 l3) (bF8 l2) (cJ5 q.1 m)
  have e1:aD7 aA eN4 ae=some (.next (aA2 ae 2 (.own (.dct (aG9 m q))))):=by
   rw [bY6] at ht
   cases hg:dictGet? m q.1 with
   | some x =>
    rw [hg] at ht
    have h2:tst aA (.tr (.isTup (.var 4))) ae=some false:=by
     show ((ev _ _ _ _).bind _).bind _=_;rw [aA1 l4]
     rfl
    have e3:run aA (.augIdx 2 (.var 3) .add (.var 4)) ae=some (.next (aA2 ae 2 (.own (.dct (bU9 m q.1 (x+q.2)))))):=by
     have hi:bJ8 (.dct m) (aC9 q.1)=some (.int x):=by
      (dsimp only [bJ8];rw [bF0,aC1,hg])
      rfl
     (dsimp only [run];(rw [aE3 l2,aC1,aA1 l3,aC1,hi,aC1,if_pos (show dE1 (.int x)=true from rfl),aA1 l4,aC1];dsimp only [dR4];rw [aC1];dsimp only [aZ2];rw [if_pos (by dsimp only [lim];exact bB7 (aA9 hl (cl rfl))),bF0]))
     rfl
    (dsimp only [aD7];rw [aI3 ht];dsimp only [aD7];rw [aF2 h2];dsimp only [aD7];rw [e3])
    simp only [aC1,aG9,val,hg,Option.getD_some]
   | none =>
    rw [hg] at ht
    have e3:=cA0 (Γ:=aA) (m:=m) (k:=q.1) (v:=q.2) l2 (aA1 l4) (aA1 l3) (bB7 hl)
    (dsimp only [aD7];rw [aF2 ht];dsimp only [aD7];rw [e3])
    simp only [aC1,aG9,val,hg,Option.getD_none,Int.zero_add]
  have hpl:=bW5 m q.1 (val m q.1+q.2)
  obtain ⟨ao,e2,h2⟩:=cE0 s (aG9 m q) (aA2 ae 2 (.own (.dct (aG9 m q)))) (by dsimp only [aG9];lia) (aA3 _ _ _)
  refine ⟨ao,?_,h2⟩
  (rw [aN0,List.map_cons];dsimp only [aH0])
  show (Option.bind (aD7 _ _ (aA2 (aA2 ρ 3 (.dat (aC9 q.1))) 4 (.dat (.int q.2)))) _)=_
  rw [aQ,e1]
  exact e2
theorem eF8 (t s:Kv) (hn:(t.map (·.1)).Nodup) (hl:t.length+s.length≤4000):aQ4 [.dct t,.dct s]=some (.dct (s.foldl aG9 t)):=by
 refine (aH5 (by rfl)).trans ?_
 show (aD7 aA aK4 [(0,.dat (.dct t)),(1,.dat (.dct s))]).bind aC5=_
 dsimp only [aK4]
 have e0:run aA (.ownDict 2) [(0,.dat (.dct t)),(1,.dat (.dct s))]=some (.next [(0,.dat (.dct t)),(1,.dat (.dct s)),(2,.own (.dct []))]):=rfl
 rw [aA4 e0]
 obtain ⟨ae,e1,h1,h1'⟩:=bT4 t [] [(0,.dat (.dct t)),(1,.dat (.dct s)),(2,.own (.dct []))] (hn) (by simp;exact bB7 hl) rfl
 have f1:run aA (.forItems 3 4 (.var 0) (.cons (.setIdx 2 (.var 3) (.var 4)) .nil)) [(0,.dat (.dct t)),(1,.dat (.dct s)),(2,.own (.dct []))]=some (.next ae):=by
  (dsimp only [run];rw [aA1 (d:=.dct t) rfl,aC1])
  exact e1
 rw [aA4 f1]
 rw [List.nil_append] at h1
 have s1:ae.lookup 1=some (.dat (.dct s)):=by rw [h1' 1 (by decide) (by decide) (by decide)];rfl
 obtain ⟨aq,e2,h2⟩:=cE0 s t ae hl h1
 have f2:run aA (.forItems 3 4 (.var 1) eN4) ae=some (.next aq):=by
  (dsimp only [run];rw [aA1 s1,aC1])
  exact e2
 rw [aA4 f2,aA4 (aF3 h2),aE0 (aF6 (aA1 (aA3 _ _ _)))]
 rfl
theorem dF5 (m:Kv):aI9 [.dct m]=some (.int (tot m)):=by
 refine (aH5 (by rfl)).trans ?_
 show (aD7 aO aK3 [(0,.dat (.dct m))]).bind aC5=_
 dsimp only [aK3]
 have e0:run aO (.asg 1 (.int 0)) [(0,.dat (.dct m))]=some (.next [(0,.dat (.dct m)),(1,.dat (.int 0))]):=rfl
 rw [aA4 e0]
 have loop:∀ (m:Kv) (x:Int) (ρ:Ro),ρ.lookup 1=some (.dat (.int x))→∃ ao,aH0 (fun d ρ=>aD7 aO (.cons (.aug 1 .add (.var 2)) .nil) (aD2 [(2,d)] ρ)) (m.map fun p=>.int p.2) ρ=some (.next ao)∧ao.lookup 1=some (.dat (.int (x+tot m))):=by
  intro m
  induction m with
  | nil=>intro x ρ h;exact ⟨ρ,rfl,by rw [h];simp [tot]⟩
  | cons q m ih =>
   intro x ρ h
   have l1:(aA2 ρ 2 (.dat (.int q.2))).lookup 1=some (.dat (.int x)):=(aA0 (by decide)).trans h
   have e:aD7 aO (.cons (.aug 1 .add (.var 2)) .nil) (aA2 ρ 2 (.dat (.int q.2)))=some (.next (aA2 (aA2 ρ 2 (.dat (.int q.2))) 1 (.dat (.int (x+q.2))))):=by
    (dsimp only [aD7];dsimp only [run];rw [aA1 l1,aC1,aA1 (aA3 _ _ _)])
    rfl
   obtain ⟨ao,e2,h2⟩:=ih (x+q.2) (aA2 (aA2 ρ 2 (.dat (.int q.2))) 1 (.dat (.int (x+q.2)))) (aA3 _ _ _)
   refine ⟨ao,?_,?_⟩
   ·(rw [List.map_cons];dsimp only [aH0])
    show (Option.bind (aD7 _ _ (aA2 ρ 2 (.dat (.int q.2)))) _)=_
    rw [e]
    exact e2
   ·rw [h2]
    dsimp only [tot]
    rw [List.map_cons,List.sum_cons,Int.add_assoc]
 obtain ⟨ae,e1,h1⟩:=loop m 0 [(0,.dat (.dct m)),(1,.dat (.int 0))] rfl
 have f1:run aO (.for1 2 (.vals (.var 0)) (.cons (.aug 1 .add (.var 2)) .nil)) [(0,.dat (.dct m)),(1,.dat (.int 0))]=some (.next ae):=by
  (dsimp only [run];dsimp only [bI2];rw [aA1 (d:=.dct m) rfl,aC1,aC1])
  exact e1
 rw [aA4 f1,aE0 (aF6 (aA1 h1)),Int.zero_add]
 rfl
end Mine
end
section
open PySem PySem.W PyProof.Rows PySem.Calls PySem.Spec
set_option autoImplicit false
set_option maxRecDepth 100000
namespace Mine
mutual
theorem bN5:∀ (n:Nat) (d:D),aB0 n d=true→PyData.eqv (pd d) (pd d)=true
 | _,.none,_=>by (dsimp only [pd];simp [PyData.eqv])
 | _,.bool _,_=>by (dsimp only [pd];simp [PyData.eqv])
 | _,.int _,_=>by (dsimp only [pd];simp [PyData.eqv])
 | _,.str _,_=>by (dsimp only [pd];simp [PyData.eqv])
 | n,.bytes _,h=>by cases n<;>(dsimp only [aB0] at h;simp at h)
 | n,.dct _,h=>by cases n<;>(dsimp only [aB0] at h;simp at h)
 | n,.barr _,h=>by cases n<;>(dsimp only [aB0] at h;simp at h)
 | n,.ent _,h=>by cases n<;>(dsimp only [aB0] at h;simp at h)
 | n,.pat,h=>by cases n<;>(dsimp only [aB0] at h;simp at h)
 | 0,.tup _,h=>by (dsimp only [aB0] at h;simp at h)
 | 0,.lst _,h=>by (dsimp only [aB0] at h;simp at h)
 | n+1,.tup ds,h=>by
  (dsimp only [pd];rw [PyData.eqv])
  exact bG1 n ds (h)
 | n+1,.lst ds,h=>by
  (dsimp only [pd];rw [PyData.eqv])
  exact bG1 n ds (h)
theorem bG1:∀ (n:Nat) (ds:List D),aF4 n ds=true→PyData.eqvAll (pds ds) (pds ds)=true
 | _,[],_=>by (dsimp only [pds];simp [PyData.eqvAll])
 | n,d::ds,h=>by
  (dsimp only [aF4] at h;rw [Bool.and_eq_true] at h)
  (dsimp only [pds];rw [PyData.eqvAll,bN5 n d h.1,bG1 n ds h.2])
  rfl
end
theorem aW2 {ds:List D} (h:aB0 4 (.lst ds)=true):bG5 .ne (.lst ds) (.lst ds)=some false:=by
 show (if aB0 4 (.lst ds)&&aB0 4 (.lst ds) then some (!PyData.eqv (pd (.lst ds)) (pd (.lst ds))) else neX (.lst ds) (.lst ds))=_
 rw [h,if_pos (by rfl),bN5 4 _ h]
 rfl
theorem aJ8 {n:Nat}:∀ {ds:List D},(∀ d∈ds,aB0 n d=true)→aF4 n ds=true
 | [],_=>rfl
 | d::ds,h=>by (dsimp only [aF4];rw [h d (.head _),aJ8 fun x hx=>h x (.tail _ hx)]);rfl
theorem cR9 {x:List Nat} (h:x∈baseL) (n:Nat):aB0 n (aC9 (aK8 x))=true:=by
 dsimp only [aK8]
 split
 ·cases n<;>rfl
 ·show aB0 n (.str (S x))=true
  (dsimp only [aB0])
  exact aN7 fun c hc=>((cV7 x h).ch c hc).1
theorem cT7 {n:Nat} {w:Nat→List Nat} (hb:∀ k,k < n→w k∈baseL) {f l:Nat} (h2:l < n):aB0 4 (.lst (bB0 w f l))=true:=by
 (dsimp only [aB0])
 refine aJ8 fun d hd=>?_
 obtain ⟨x,hx,q⟩:=List.mem_flatMap.mp hd
 obtain ⟨k,hk,rfl⟩:=List.mem_map.mp hx
 have hk':=List.mem_range'_1.mp hk
 have:=hb k (bW4 hk'.1 hk'.2 h2)
 rcases List.mem_cons.mp q with q | q
 ·rw [q];rfl
 ·rw [List.mem_singleton.mp q];exact cR9 this 3
theorem aJ0:∀ l:List (List Nat),(l.flatMap aS0).length=2*l.length
 | []=>rfl
 | x::l=>by rw [List.flatMap_cons,List.length_append,aJ0 l];simp [aS0];lia
theorem dT3 (w:Nat→List Nat) {f l:Nat} (h:f≤l):(bB0 w f l).length=2*(l+1 - f):=by
 dsimp only [bB0]
 rw [aJ0];simp
theorem cT8 (w:Nat→List Nat) {f l:Nat} (h:f≤l):(bB0 w f l)[1]?=some (aC9 (aK8 (w f))):=by
 dsimp only [bB0]
 rw [show l+1 - f=(l - f)+1 from cO5 h,List.range'_succ]
 rfl
theorem dF2 (w:Nat→List Nat) {f l:Nat} (h:f≤l):(bB0 w f l)[2*(l+1 - f) - 1]?=some (aC9 (aK8 (w l))):=by
 dsimp only [bB0]
 rw [show l+1 - f=(l - f)+1 from cO5 h,List.range'_concat,Nat.one_mul,show f+(l - f)=l from dP1 h,List.map_append,List.flatMap_append,List.getElem?_append_right (by rw [aJ0];simp;lia),aJ0]
 simp only [List.length_map,List.length_range']
 rw [show 2*(l - f+1) - 1 - 2*(l - f)=1 from eU4]
 rfl
noncomputable def bA3 (w:Nat→List Nat) (p:Nat × Nat):Kv:=aG9 [(aK8 (w p.1),1)] (aK8 (w p.2),1)
noncomputable def cF4 (w:Nat→List Nat) (m:Kv) (p:Nat × Nat):Kv:=(bA3 w p).foldl aG9 m
noncomputable def dX6 (s:Kv) (k:Key):Int:=(s.map fun p=>if k=p.1 then p.2 else 0).sum
theorem cN3:∀ (s:Kv) (k:Key),(s.map (·.1)).Nodup→dX6 s k=val s k
 | [],_,_=>rfl
 | q::s,k,h=>by
  have hn:=List.nodup_cons.mp h
  have ih:=cN3 s k hn.2
  dsimp only [dX6,val] at ih ⊢
  rw [List.map_cons,List.sum_cons,aK5,ih]
  by_cases hk:q.1=k
  ·rw [if_pos hk.symm,if_pos hk]
   have:dictGet? s k=none:=by
    cases e:dictGet? s k with
    | none=>rfl
    | some x=>exact absurd (mem_key.mp (by rw [bY6,e];rfl)) (by rw [← hk];exact hn.1)
   rw [this]
   simp
  ·rw [if_neg (fun z=>hk z.symm),if_neg hk,Int.zero_add]
theorem bJ9:∀ (s m:Kv),(m.map (·.1)).Nodup→((s.foldl aG9 m).map (·.1)).Nodup∧(s.foldl aG9 m).length≤m.length+s.length∧(∀ k,val (s.foldl aG9 m) k=val m k+dX6 s k)∧tot (s.foldl aG9 m)=tot m+tot s
 | [],m,h=>⟨h,by simp,fun k=>by simp [dX6],by simp [tot]⟩
 | q::s,m,h=>by
  have hn:((aG9 m q).map (·.1)).Nodup:=bR1 h _ _
  refine hid fun Gz zz=>?_
  obtain ⟨h1,h2,h3,h4⟩:=bJ9 s (aG9 m q) hn
  refine zz ?_;clear zz Gz
  rw [List.foldl_cons]
  have hpl:=bW5 m q.1 (val m q.1+q.2)
  refine ⟨h1,?_,fun k=>?_,?_⟩
  ·dsimp only [aG9] at h2 hpl ⊢
   rw [List.length_cons];lia
  ·rw [h3,cW8]
   dsimp only [dX6]
   rw [List.map_cons,List.sum_cons,Int.add_assoc]
  ·rw [h4,cW9 h]
   dsimp only [tot]
   rw [List.map_cons,List.sum_cons,Int.add_assoc]
theorem bL0 (w:Nat→List Nat) (p:Nat × Nat):((bA3 w p).map (·.1)).Nodup∧(bA3 w p).length≤2∧(∀ k,val (bA3 w p) k=(if k=aK8 (w p.1) then 1 else 0)+if k=aK8 (w p.2) then 1 else 0)∧tot (bA3 w p)=2:=by
 have hn:(([(aK8 (w p.1),1)]:Kv).map (·.1)).Nodup:=List.nodup_cons.mpr ⟨List.not_mem_nil,List.nodup_nil⟩
 refine ⟨bR1 hn _ _,bW5 _ _ _,fun k=>?_,?_⟩
 ·dsimp only [bA3]
  rw [cW8]
  congr 1
  dsimp only [val]
  rw [aK5]
  by_cases h:k=aK8 (w p.1)
  ·rw [if_pos h.symm,if_pos h];rfl
  ·rw [if_neg (fun z=>h z.symm),if_neg h];rfl
 ·dsimp only [bA3]
  rw [cW9 hn]
  rfl
structure BookIs (w:Nat→List Nat) (es:List (Nat × Nat)) (m:Kv):Prop where
 nd:(m.map (·.1)).Nodup
 len:m.length≤2*es.length
 vals:∀ k,val m k=((es.filter fun p=>decide (k=aK8 (w p.1))).length:Int)+((es.filter fun p=>decide (k=aK8 (w p.2))).length:Int)
 total:tot m=2*(es.length:Int)
theorem dH3 (w:Nat→List Nat):BookIs w [] []:=⟨List.nodup_nil,by simp,fun k=>rfl,rfl⟩
theorem cV5 {w:Nat→List Nat} {es:List (Nat × Nat)} {m:Kv} (h:BookIs w es m) (p:Nat × Nat):BookIs w (es++[p]) (cF4 w m p):=by
 refine hid fun Gz zz=>?_
 obtain ⟨b1,b2,b3,b4⟩:=bL0 w p
 obtain ⟨f1,f2,f3,f4⟩:=bJ9 (bA3 w p) m h.nd
 refine zz ?_;clear zz Gz
 refine ⟨f1,?_,fun k=>?_,?_⟩
 ·have:=h.len
  dsimp only [cF4]
  rw [List.length_append,List.length_singleton];exact aA9 f2 (bL9 this b2)
 ·dsimp only [cF4]
  rw [f3,cN3 _ _ b1,b3,h.vals,List.filter_append,List.filter_append,List.length_append,List.length_append]
  have e1:((([p]:List (Nat × Nat)).filter fun p=>decide (k=aK8 (w p.1))).length:Int)=if k=aK8 (w p.1) then 1 else 0:=by
   by_cases q:k=aK8 (w p.1)<;>simp [q]
  have e2:((([p]:List (Nat × Nat)).filter fun p=>decide (k=aK8 (w p.2))).length:Int)=if k=aK8 (w p.2) then 1 else 0:=by
   by_cases q:k=aK8 (w p.2)<;>simp [q]
  rw [Int.natCast_add,Int.natCast_add,e1,e2]
  lia
 ·dsimp only [cF4]
  rw [f4,b4,h.total,List.length_append,List.length_singleton]
  lia
noncomputable abbrev dT2:NSs:=(.cons (.plain (.own 8 (.nil)))
   (.cons (.for1 9 (.seq (.slcFT (.var 0) (.var 6) (.bin .add (.var 7) (.int 1))))
    (.cons (.plain (.extd 8 (.call 0 (.cons (.var 9) .nil))))
    .nil))
   (.cons (.freeze 8)
   (.cons (.turn 10 0 (.cons (.idx (.idx (.var 1) (.var 6)) (.var 7)) .nil))
   (.cons (.ite (.cmp .ne (.var 10) (.var 8))
    (.cons (.plain (.ret (.dict0)))
    .nil)
    .nil)
   (.cons (.plain (.asg 11 (.call 1 (.cons (.var 4) (.cons (.dict1 (.idx (.var 10) (.int 1)) (.int 1)) .nil)))))
   (.cons (.plain (.asg 12 (.dict1 (.idx (.var 10) (.bin .sub (.len (.var 10)) (.int 1))) (.int 1))))
   (.cons (.plain (.asg 13 (.call 1 (.cons (.var 11) (.cons (.var 12) .nil)))))
   (.cons (.ite (.bools false (.cons (.cmp .ne (.var 11) (.dict1 (.idx (.var 8) (.int 1)) (.int 1))) (.cons (.cmp .ne (.var 12) (.dict1 (.idx (.var 8) (.bin .sub (.len (.var 8)) (.int 1))) (.int 1))) .nil)))
    (.cons (.plain (.ret (.dict0)))
    .nil)
    .nil)
   (.cons (.plain (.asg 3 (.call 1 (.cons (.var 3) (.cons (.var 13) .nil)))))
   .nil))))))))))
structure BkRo (n:Nat) (w:Nat→List Nat) (m:Kv) (ρ:Ro):Prop where
 h0:ρ.lookup 0=some (.dat (aC3 n w))
 h1:ρ.lookup 1=some (.dat (aB8 n w))
 h3:ρ.lookup 3=some (.dat (.dct m))
 h4:ρ.lookup 4=some (.dat (.dct []))
theorem BkRo.set {n:Nat} {w:Nat→List Nat} {m:Kv} {ρ:Ro} (h:BkRo n w m ρ) {i:Nat} {lv:LV} (hi:5≤i):BkRo n w m (aA2 ρ i lv) :=
 ⟨(Eq.trans (aA0 (dO9 (bR0 (bQ7 hi)))) h.h0),(Eq.trans (aA0 (dO9 (bR0 (bQ7 hi)))) h.h1),(Eq.trans (aA0 (dO9 (bR0 (bQ7 hi)))) h.h3),(Eq.trans (aA0 (dO9 (bQ7 hi))) h.h4)⟩
theorem cU6 {ρ:Ro} {x:List Nat} (hx:x∈baseL) (h:ρ.lookup 9=some (.dat (.str (S x)))):ev an (.call 0 (.cons (.var 9) .nil)) false ρ=some (.lst (aS0 x)):=by
 (dsimp only [ev,evs];rw [h])
 exact bJ1 x hx
theorem bO1 {ρ:Ro} {a b:IE} {t s:Kv} (h1:ev an a false ρ=some (.dct t)) (h2:ev an b false ρ=some (.dct s)) (hn:(t.map (·.1)).Nodup) (hl:t.length+s.length≤4000):ev an (.call 1 (.cons a (.cons b .nil))) false ρ=some (.dct (s.foldl aG9 t)):=by
 (dsimp only [ev,evs];simp only [h1,h2,aC1,bO9])
 exact eF8 t s hn hl
theorem cC0 {Γ:List Fn} {a b:IE} {tr:Bool} {ρ:Ro} {k:Key} {i:Int} (h1:ev Γ a false ρ=some (aC9 k)) (h2:ev Γ b false ρ=some (.int i)):ev Γ (.dict1 a b) tr ρ=some (.dct [(k,i)]):=by
 (dsimp only [ev];rw [h1,aC1,h2,aC1])
 rw [bF0]
theorem bA8 {Γ:List Fn} {a b:IE} {tr:Bool} {ρ:Ro} {ds:List D} {i:Nat} {x:Int} {d:D} (h1:ev Γ a tr ρ=some (.lst ds)) (h2:ev Γ b tr ρ=some (.int x)) (hx:x=(i:Int)) (hi:i < 4000) (h:ds[i]?=some d):ev Γ (.idx a b) tr ρ=some d:=by
 subst hx
 refine aF7 h1 h2 ?_
 (dsimp only [bJ8];rw [if_pos ⟨bA0 rfl,cX4 hi rfl⟩,Int.toNat_natCast,h])
theorem dF1 {n:Nat} {w:Nat→List Nat} (W:Ws n w) (hb:∀ k,k < n→w k∈baseL) (hn:n≤7) {m:Kv} {ρ:Ro} (R:BkRo n w m ρ) {p:Nat × Nat} (h1:p.1≤p.2) (h2:p.2 < n) (hm:(m.map (·.1)).Nodup) (hml:m.length≤2000) :
  ∃ ao,aC8 an aw dT2 (aD2 [(6,.int (p.1:Int)),(7,.int (p.2:Int))] ρ)=some (.next ao)∧BkRo n w (cF4 w m p) ao:=by
 show ∃ ao,aC8 an aw dT2 (aA2 (aA2 ρ 6 (.dat (.int (p.1:Int)))) 7 (.dat (.int (p.2:Int))))=_∧_
 have e0:runN an aw (.plain (.own 8 .nil)) (aA2 (aA2 ρ 6 (.dat (.int (p.1:Int)))) 7 (.dat (.int (p.2:Int))))=some (.next (aA2 (aA2 (aA2 ρ 6 (.dat (.int (p.1:Int)))) 7 (.dat (.int (p.2:Int)))) 8 (.own (.lst [])))):=by
  (dsimp only [runN];rw [aI2])
 rw [aB1 e0]
 have R1:BkRo n w m (aA2 (aA2 (aA2 ρ 6 (.dat (.int (p.1:Int)))) 7 (.dat (.int (p.2:Int)))) 8 (.own (.lst []))):=((R.set (by decide)).set (by decide)).set (by decide)
 generalize aQ:aA2 (aA2 (aA2 ρ 6 (.dat (.int (p.1:Int)))) 7 (.dat (.int (p.2:Int)))) 8 (.own (.lst []))=ae at R1
 have l6:ae.lookup 6=some (.dat (.int (p.1:Int))):=lkT aQ ((aA0 (by decide)).trans ((aA0 (by decide)).trans (aA3 _ _ _)))
 have l7:ae.lookup 7=some (.dat (.int (p.2:Int))):=lkT aQ ((aA0 (by decide)).trans (aA3 _ _ _))
 have l8:ae.lookup 8=some (.own (.lst [])):=lkT aQ (aA3 _ _ _)
 have es:bI2 an (.seq (.slcFT (.var 0) (.var 6) (.bin .add (.var 7) (.int 1)))) ae=some ((List.range' p.1 (p.2+1 - p.1)).map fun k=>.str (S (w k))) :=
  aX0 (cB7 (n:=n) (p:=p.1) (q:=p.2+1) (g:=fun k=>.str (S (w k))) (aA1 R1.h0) (aA1 l6) (aL0 (aA1 l7) aB7) (aO0 h1) (q_s h2) (aA9 hn (cl rfl)))
 refine hid fun Gz zz=>?_
 obtain ⟨aq,e2,R2,m6,m7,m8⟩:=bN3 (Γ:=an) (ΓN:=aw) (i:=9) (ρ:=ae) (body:=.cons (.plain (.extd 8 (.call 0 (.cons (.var 9) .nil)))) .nil)
  (fun j ρ=>BkRo n w m ρ∧ρ.lookup 6=some (.dat (.int (p.1:Int)))∧ρ.lookup 7=some (.dat (.int (p.2:Int)))∧ρ.lookup 8=some (.own (.lst (((List.range' p.1 j).map w).flatMap aS0)))) es ⟨R1,l6,l7,l8⟩ (by
   rintro j hj ρ ⟨R,h6,h7,h8⟩
   have hj':j < p.2+1 - p.1:=by simpa using hj
   have ed:((List.range' p.1 (p.2+1 - p.1)).map fun k=>D.str (S (w k)))[j]=.str (S (w (p.1+j))):=by simp
   rw [ed]
   have ec:=cU6 (ρ:=aA2 ρ 9 (.dat (.str (S (w (p.1+j)))))) (hb (p.1+j) (eT5 h1 h2 hj')) (aA3 _ _ _)
   have q8:(aA2 ρ 9 (.dat (.str (S (w (p.1+j)))))).lookup 8=some (.own (.lst (((List.range' p.1 j).map w).flatMap aS0))):=(aA0 (by decide)).trans h8
   have er:runN an aw (.plain (.extd 8 (.call 0 (.cons (.var 9) .nil)))) (aA2 ρ 9 (.dat (.str (S (w (p.1+j))))))=some (.next (aA2 (aA2 ρ 9 (.dat (.str (S (w (p.1+j)))))) 8 (.own (.lst (((List.range' p.1 j).map w).flatMap aS0++aS0 (w (p.1+j))))))):=by
    (dsimp only [runN];dsimp only [run];(rw [aE3 q8,aC1,ec,aC1];dsimp only [eD4];rw [if_pos ⟨by rw [aJ0];simp [lim];exact dV4 (bB7 (cA8 hn)) (aA9 (bL8 hj') (cF8 h2 hn)) rfl,by simp [aS0,lim]⟩]))
    rfl
   (rw [aB1 er];dsimp only [aC8])
   refine ⟨_,rfl,(R.set (by decide)).set (by decide),(aA0 (by decide)).trans ((aA0 (by decide)).trans h6),(aA0 (by decide)).trans ((aA0 (by decide)).trans h7),?_⟩
   rw [aA3,List.range'_concat,Nat.one_mul,List.map_append,List.flatMap_append]
   simp)
 refine zz ?_;clear zz Gz
 rw [aB1 e2]
 rw [List.length_map,List.length_range'] at m8
 have e3:runN an aw (.freeze 8) aq=some (.next (aA2 aq 8 (.dat (.lst (bB0 w p.1 p.2))))):=by
  (dsimp only [runN])
  rw [aE3 m8]
  rfl
 rw [aB1 e3]
 have R3:BkRo n w m (aA2 aq 8 (.dat (.lst (bB0 w p.1 p.2)))):=R2.set (by decide)
 generalize bt:aA2 aq 8 (.dat (.lst (bB0 w p.1 p.2)))=aG at R3
 have n6:aG.lookup 6=some (.dat (.int (p.1:Int))):=lkT bt ((aA0 (by decide)).trans m6)
 have n7:aG.lookup 7=some (.dat (.int (p.2:Int))):=lkT bt ((aA0 (by decide)).trans m7)
 have n8:aG.lookup 8=some (.dat (.lst (bB0 w p.1 p.2))):=lkT bt (aA3 _ _ _)
 have ei:ev an (.idx (.idx (.var 1) (.var 6)) (.var 7)) false aG=some (.str (S (nm w p.1 p.2))):=by
  rw [aF7 (aF7 (x:=aB8 n w) (aA1 R3.h1) (aA1 n6) (aG3 (aL3 h1 h2) (aA9 hn (cl rfl)))) (aA1 n7) (aG3 h2 (aA9 hn (cl rfl)))]
  dsimp only [cell]
  rw [if_pos h1]
 have e4:runN an aw (.turn 10 0 (.cons (.idx (.idx (.var 1) (.var 6)) (.var 7)) .nil)) aG=some (.next (aA2 aG 10 (.dat (.lst (bB0 w p.1 p.2))))):=by
  (dsimp only [runN,evs])
  rw [ei]
  show Option.map _ (aE9 [.str (S (nm w p.1 p.2))])=_
  rw [cE5 W hb hn h1 h2]
  rfl
 rw [aB1 e4]
 have R4:BkRo n w m (aA2 aG 10 (.dat (.lst (bB0 w p.1 p.2)))):=R3.set (by decide)
 generalize eQ:aA2 aG 10 (.dat (.lst (bB0 w p.1 p.2)))=bb at R4
 have o8:bb.lookup 8=some (.dat (.lst (bB0 w p.1 p.2))):=lkT eQ ((aA0 (by decide)).trans n8)
 have o10:bb.lookup 10=some (.dat (.lst (bB0 w p.1 p.2))):=lkT eQ (aA3 _ _ _)
 have e5:runN an aw (.ite (.cmp .ne (.var 10) (.var 8)) (.cons (.plain (.ret (.dict0))) .nil) .nil) bb=some (.next bb):=by
  (dsimp only [runN])
  rw [aD8 (aA1 o10) (aA1 o8) (aW2 (cT7 hb h2))]
  (dsimp only [aC8];rfl)
 rw [aB1 e5]
 have hdl:=dT3 w h1
 have dk1:∀ (i:Nat) (tr tr':Bool) (ρ:Ro),ρ.lookup i=some (.dat (.lst (bB0 w p.1 p.2)))→ev an (.dict1 (.idx (.var i) (.int 1)) (.int 1)) tr ρ=some (.dct [(aK8 (w p.1),1)]):=fun i tr tr' ρ h =>
  cC0 (bA8 (i:=1) (aA1 h) aB7 rfl (by decide) (cT8 w h1)) aB7
 have dk2:∀ (i:Nat) (tr tr':Bool) (ρ:Ro),ρ.lookup i=some (.dat (.lst (bB0 w p.1 p.2)))→ev an (.dict1 (.idx (.var i) (.bin .sub (.len (.var i)) (.int 1))) (.int 1)) tr ρ=some (.dct [(aK8 (w p.2),1)]):=fun i tr tr' ρ h =>
  cC0 (bA8 (i:=2*(p.2+1 - p.1) - 1) (aA1 h) (aT1 (aQ8 (n:=2*(p.2+1 - p.1)) (aA1 h) hdl (dV4 cL0 (cF8 h2 hn) rfl)) aB7) (eX2 h1) (eU3 hn h2) (dF2 w h1)) aB7
 have e6:runN an aw (.plain (.asg 11 (.call 1 (.cons (.var 4) (.cons (.dict1 (.idx (.var 10) (.int 1)) (.int 1)) .nil))))) bb=some (.next (aA2 bb 11 (.dat (.dct [(aK8 (w p.1),1)])))):=by
  (dsimp only [runN])
  exact aD1 (bO1 (t:=[]) (s:=[(aK8 (w p.1),1)]) (aA1 R4.h4) (dk1 10 false false bb o10) List.nodup_nil (by simp))
 rw [aB1 e6]
 have R5:BkRo n w m (aA2 bb 11 (.dat (.dct [(aK8 (w p.1),1)]))):=R4.set (by decide)
 generalize dT:aA2 bb 11 (.dat (.dct [(aK8 (w p.1),1)]))=aM at R5
 have p8:aM.lookup 8=some (.dat (.lst (bB0 w p.1 p.2))):=lkT dT ((aA0 (by decide)).trans o8)
 have p10:aM.lookup 10=some (.dat (.lst (bB0 w p.1 p.2))):=lkT dT ((aA0 (by decide)).trans o10)
 have p11:aM.lookup 11=some (.dat (.dct [(aK8 (w p.1),1)])):=lkT dT (aA3 _ _ _)
 have e7:runN an aw (.plain (.asg 12 (.dict1 (.idx (.var 10) (.bin .sub (.len (.var 10)) (.int 1))) (.int 1)))) aM=some (.next (aA2 aM 12 (.dat (.dct [(aK8 (w p.2),1)])))):=by
  (dsimp only [runN])
  exact aD1 (dk2 10 false false aM p10)
 rw [aB1 e7]
 have R6:BkRo n w m (aA2 aM 12 (.dat (.dct [(aK8 (w p.2),1)]))):=R5.set (by decide)
 generalize dU:aA2 aM 12 (.dat (.dct [(aK8 (w p.2),1)]))=bj at R6
 have q8:bj.lookup 8=some (.dat (.lst (bB0 w p.1 p.2))):=lkT dU ((aA0 (by decide)).trans p8)
 have q11:bj.lookup 11=some (.dat (.dct [(aK8 (w p.1),1)])):=lkT dU ((aA0 (by decide)).trans p11)
 have q12:bj.lookup 12=some (.dat (.dct [(aK8 (w p.2),1)])):=lkT dU (aA3 _ _ _)
 have e8:runN an aw (.plain (.asg 13 (.call 1 (.cons (.var 11) (.cons (.var 12) .nil))))) bj=some (.next (aA2 bj 13 (.dat (.dct (bA3 w p))))):=by
  (dsimp only [runN])
  exact aD1 (bO1 (t:=[(aK8 (w p.1),1)]) (s:=[(aK8 (w p.2),1)]) (aA1 q11) (aA1 q12) (List.nodup_cons.mpr ⟨List.not_mem_nil,List.nodup_nil⟩) (by simp))
 rw [aB1 e8]
 have R7:BkRo n w m (aA2 bj 13 (.dat (.dct (bA3 w p)))):=R6.set (by decide)
 generalize di:aA2 bj 13 (.dat (.dct (bA3 w p)))=ba at R7
 have r8:ba.lookup 8=some (.dat (.lst (bB0 w p.1 p.2))):=lkT di ((aA0 (by decide)).trans q8)
 have r11:ba.lookup 11=some (.dat (.dct [(aK8 (w p.1),1)])):=lkT di ((aA0 (by decide)).trans q11)
 have r12:ba.lookup 12=some (.dat (.dct [(aK8 (w p.2),1)])):=lkT di ((aA0 (by decide)).trans q12)
 have r13:ba.lookup 13=some (.dat (.dct (bA3 w p))):=lkT di (aA3 _ _ _)
 have cd:∀ t:Kv,bG5 .ne (.dct t) (.dct t)=some false:=fun t=>if_pos (c:=t=t) rfl
 have e9:runN an aw (.ite (.bools false (.cons (.cmp .ne (.var 11) (.dict1 (.idx (.var 8) (.int 1)) (.int 1))) (.cons (.cmp .ne (.var 12) (.dict1 (.idx (.var 8) (.bin .sub (.len (.var 8)) (.int 1))) (.int 1))) .nil)))
    (.cons (.plain (.ret (.dict0))) .nil) .nil) ba=some (.next ba):=by
  (dsimp only [runN])
  have t1:tst an (.cmp .ne (.var 11) (.dict1 (.idx (.var 8) (.int 1)) (.int 1))) ba=some false:=aD8 (aA1 r11) (dk1 8 true false ba r8) (cd _)
  have t2:tst an (.cmp .ne (.var 12) (.dict1 (.idx (.var 8) (.bin .sub (.len (.var 8)) (.int 1))) (.int 1))) ba=some false:=aD8 (aA1 r12) (dk2 8 true false ba r8) (cd _)
  rw [bV5 t1 t2]
  (dsimp only [aC8];rfl)
 rw [aB1 e9]
 refine hid fun Gz zz=>?_
 obtain ⟨b1,b2,_,_⟩:=bL0 w p
 refine zz ?_;clear zz Gz
 have e10:runN an aw (.plain (.asg 3 (.call 1 (.cons (.var 3) (.cons (.var 13) .nil))))) ba=some (.next (aA2 ba 3 (.dat (.dct (cF4 w m p))))):=by
  (dsimp only [runN])
  exact aD1 (bO1 (t:=m) (s:=bA3 w p) (aA1 R7.h3) (aA1 r13) hm (aX4 hml b2 rfl))
 (rw [aB1 e10];dsimp only [aC8])
 exact ⟨_,rfl,⟨(Eq.trans (aA0 (by decide)) R7.h0),(Eq.trans (aA0 (by decide)) R7.h1),aA3 _ _ _,(Eq.trans (aA0 (by decide)) R7.h4)⟩⟩
theorem bR4 {n:Nat} {w:Nat→List Nat} (W:Ws n w) (hb:∀ k,k < n→w k∈baseL) (hn:n≤7):∀ (ps:List (Nat × Nat)) (es:List (Nat × Nat)) (m:Kv) (ρ:Ro),(∀ p∈ps,p.1≤p.2∧p.2 < n)→es.length+ps.length≤1000→BookIs w es m→BkRo n w m ρ →
  ∃ m' ao,aH0 (fun d ρ=>(cK0 6 7 d).bind fun bs=>aC8 an aw dT2 (aD2 bs ρ)) (aA6 ps) ρ=some (.next ao)∧BookIs w (es++ps) m'∧BkRo n w m' ao
 | [],es,m,ρ,_,_,B,R=>⟨m,ρ,rfl,by rw [List.append_nil];exact B,R⟩
 | p::ps,es,m,ρ,hp,hl,B,R=>by
  rw [List.length_cons] at hl
  have hBl:=B.len
  refine hid fun Gz zz=>?_
  obtain ⟨ae,e1,R1⟩:=dF1 W hb hn R (hp p (.head _)).1 (hp p (.head _)).2 B.nd (by lia)
  obtain ⟨m',ao,e2,B2,R2⟩:=bR4 W hb hn ps (es++[p]) _ ae (fun q hq=>hp q (.tail _ hq)) (by rw [List.length_append,List.length_singleton];lia) (cV5 B p) R1
  refine zz ?_;clear zz Gz
  refine ⟨m',ao,?_,by rw [List.append_assoc] at B2;exact B2,R2⟩
  (rw [aA6,List.map_cons];dsimp only [aH0])
  show (Option.bind (aC8 _ _ dT2 (aD2 [(6,.int (p.1:Int)),(7,.int (p.2:Int))] ρ)) _)=_
  rw [e1]
  exact e2
theorem bJ5 {n:Nat} {w:Nat→List Nat} (W:Ws n w) (hb:∀ k,k < n→w k∈baseL) (hn:n≤7):∀ (pages:List (List (Nat × Nat))) (es:List (Nat × Nat)) (m:Kv) (ρ:Ro),(∀ ps∈pages,∀ p∈ps,p.1≤p.2∧p.2 < n)→es.length+pages.flatten.length≤1000→BookIs w es m→BkRo n w m ρ →
  ∃ m' ao,aH0 (fun d ρ=>aC8 an aw (.cons (.for2 6 7 (.seq (.var 5)) dT2) .nil) (aD2 [(5,d)] ρ)) (pages.map fun p=>.lst (aA6 p)) ρ=some (.next ao)∧BookIs w (es++pages.flatten) m'∧BkRo n w m' ao
 | [],es,m,ρ,_,_,B,R=>⟨m,ρ,rfl,by rw [List.flatten_nil,List.append_nil];exact B,R⟩
 | ps::pages,es,m,ρ,hp,hl,B,R=>by
  rw [List.flatten_cons,List.length_append] at hl
  refine hid fun Gz zz=>?_
  obtain ⟨cY,ae,e1,B1,R1⟩:=bR4 W hb hn ps es m (aA2 ρ 5 (.dat (.lst (aA6 ps)))) (hp ps (.head _)) (by lia) B (R.set (by decide))
  obtain ⟨m',ao,e2,B2,R2⟩:=bJ5 W hb hn pages (es++ps) cY ae (fun q hq=>hp q (.tail _ hq)) (by rw [List.length_append];lia) B1 R1
  refine zz ?_;clear zz Gz
  refine ⟨m',ao,?_,by rw [List.flatten_cons,← List.append_assoc];exact B2,R2⟩
  have ef:runN an aw (.for2 6 7 (.seq (.var 5)) dT2) (aA2 ρ 5 (.dat (.lst (aA6 ps))))=some (.next ae):=by
   (dsimp only [runN])
   rw [aX0 (ds:=aA6 ps) (aA1 (aA3 _ _ _))]
   exact e1
  (rw [List.map_cons];dsimp only [aH0])
  show (Option.bind (aC8 _ _ _ (aA2 ρ 5 (.dat (.lst (aA6 ps))))) _)=_
  (rw [aB1 ef];dsimp only [aC8])
  exact e2
theorem dU1 {n:Nat} {w:Nat→List Nat} (W:Ws n w) (hb:∀ k,k < n→w k∈baseL) (hn:n≤7) (pages:List (List (Nat × Nat))) (hp:∀ ps∈pages,∀ p∈ps,p.1≤p.2∧p.2 < n) (hl:pages.flatten.length≤1000) :
  ∃ m:Kv,aY1 [aC3 n w,aB8 n w,.lst (pages.map fun p=>.lst (aA6 p))]=some (.dct m)∧BookIs w pages.flatten m:=by
 refine hid fun Gz zz=>?_
 obtain ⟨m,ao,e1,B,R⟩:=bJ5 W hb hn pages [] [] [(0,.dat (aC3 n w)),(1,.dat (aB8 n w)),(2,.dat (.lst (pages.map fun p=>.lst (aA6 p)))),(3,.dat (.dct [])),(4,.dat (.dct []))] hp (by simpa using hl) (dH3 w) ⟨rfl,rfl,rfl,rfl⟩
 refine zz ?_;clear zz Gz
 refine ⟨m,?_,B⟩
 refine (bC7 (by rfl)).trans ?_
 show (aC8 an aw aX9 [(0,.dat (aC3 n w)),(1,.dat (aB8 n w)),(2,.dat (.lst (pages.map fun p=>.lst (aA6 p))))]).bind aC5=_
 dsimp only [aX9]
 have f1:runN an aw (.plain (.asg 3 .dict0)) [(0,.dat (aC3 n w)),(1,.dat (aB8 n w)),(2,.dat (.lst (pages.map fun p=>.lst (aA6 p))))]=some (.next [(0,.dat (aC3 n w)),(1,.dat (aB8 n w)),(2,.dat (.lst (pages.map fun p=>.lst (aA6 p)))),(3,.dat (.dct []))]):=rfl
 have f2:runN an aw (.plain (.asg 4 .dict0)) [(0,.dat (aC3 n w)),(1,.dat (aB8 n w)),(2,.dat (.lst (pages.map fun p=>.lst (aA6 p)))),(3,.dat (.dct []))]=some (.next [(0,.dat (aC3 n w)),(1,.dat (aB8 n w)),(2,.dat (.lst (pages.map fun p=>.lst (aA6 p)))),(3,.dat (.dct [])),(4,.dat (.dct []))]):=rfl
 rw [aB1 f1,aB1 f2]
 have f3:runN an aw (.for1 5 (.seq (.var 2)) (.cons (.for2 6 7 (.seq (.var 5)) dT2) .nil)) [(0,.dat (aC3 n w)),(1,.dat (aB8 n w)),(2,.dat (.lst (pages.map fun p=>.lst (aA6 p)))),(3,.dat (.dct [])),(4,.dat (.dct []))]=some (.next ao):=by
  (dsimp only [runN])
  rw [aX0 (ds:=pages.map fun p=>.lst (aA6 p)) (aA1 rfl)]
  exact e1
 rw [aB1 f3]
 have f4:runN an aw (.plain (.ret (.ite (.cmp .eq (.var 4) (.dict0)) (.var 3) (.dict0)))) ao=some (.ret (.dct m)):=by
  (dsimp only [runN])
  refine aF6 ?_
  have ce:∀ t:Kv,bG5 .eq (.dct t) (.dct t)=some true:=fun t=>if_pos (c:=t=t) rfl
  have t:tst an (.cmp .eq (.var 4) (.dict0)) ao=some true:=aD8 (aA1 R.h4) (y:=.dct []) rfl (ce [])
  rw [bA9 (y:=.dct []) t (fun _=>aA1 R.h3) (fun z=>by cases z)]
  rfl
 rw [aX1 f4]
 rfl
end Mine
end
section
open PySem PySem.W PyProof.Rows PySem.Calls PySem.Spec
set_option autoImplicit false
set_option maxRecDepth 100000
namespace Mine
theorem dR2:∀ x∈baseL,∀ y∈baseL,aK8 x=aK8 y→x=y:=by decide +kernel
theorem aX6 (n:Nat):∀ (k:Nat) (q:List (Nat × Nat)),(aB5 n k q).length=k
 | 0,_=>rfl
 | k+1,q=>by rw [aB5,List.length_cons,aX6 n k]
theorem aX5 (n:Nat):∀ (k:Nat) (q:List (Nat × Nat)),(∀ p∈q,p.1≤p.2∧p.2 < n)→∀ ps∈aB5 n k q,∀ p∈ps,p.1≤p.2∧p.2 < n
 | 0,_,_,_,h=>by cases h
 | k+1,q,hq,ps,h=>by
  rw [aB5] at h
  rcases List.mem_cons.mp h with e | e
  ·rw [e];exact hq
  ·exact aX5 n k (aJ4 n q) bE8 ps e
theorem aV0 (n:Nat) (hn:n≤7):∀ (k:Nat) (q:List (Nat × Nat)),q.length≤49→∀ ps∈aB5 n k q,ps.length≤49
 | 0,_,_,_,h=>by cases h
 | k+1,q,hq,ps,h=>by
  rw [aB5] at h
  rcases List.mem_cons.mp h with e | e
  ·rw [e];exact hq
  ·exact aV0 n hn k (aJ4 n q) (bE9 hn) ps e
theorem bX3 {n:Nat} {w:Nat→List Nat} (W:Ws n w):aB0 4 (aB8 n w)=true:=by
 unfold aB8
 (dsimp only [aB0])
 refine aJ8 fun d hd=>?_
 obtain ⟨f,_,rfl⟩:=List.mem_map.mp hd
 (dsimp only [aB0])
 refine aJ8 fun d hd=>?_
 obtain ⟨l,hl,rfl⟩:=List.mem_map.mp hd
 have hl':=List.mem_range.mp hl
 unfold cell
 (dsimp only [aB0])
 refine aN7 fun c hc=>?_
 split at hc
 ·exact (aS2 W hl' c hc).1
 ·cases hc
theorem dB6 {P:List (List (Nat × Nat))} (h:P≠[]):bG5 .eq (.lst (P.map fun p=>.lst (aA6 p))) (.lst [])=some false:=by
 have e1:aB0 4 (.lst (P.map fun p=>.lst (aA6 p)))=true:=by
  (dsimp only [aB0])
  refine aJ8 fun d hd=>?_
  obtain ⟨ps,_,rfl⟩:=List.mem_map.mp hd
  (dsimp only [aB0])
  refine aJ8 fun d hd=>?_
  obtain ⟨p,_,rfl⟩:=List.mem_map.mp hd
  rfl
 show (if aB0 4 (.lst (P.map fun p=>.lst (aA6 p)))&&aB0 4 (.lst []) then some (PyData.eqv (pd (.lst (P.map fun p=>.lst (aA6 p)))) (pd (.lst []))) else eqX (.lst (P.map fun p=>.lst (aA6 p))) (.lst []))=_
 rw [e1,if_pos (by rfl)]
 cases P with
 | nil=>exact absurd rfl h
 | cons p P=>rfl
theorem cJ4 (a b:Int) (h:a=b):bG5 .ne (.int a) (.int b)=some false:=by
 subst h
 show (if aB0 4 (.int a)&&aB0 4 (.int a) then some (!PyData.eqv (pd (.int a)) (pd (.int a))) else neX (.int a) (.int a))=_
 have h1:(aB0 4 (.int a)&&aB0 4 (.int a))=true:=rfl
 rw [if_pos h1,bN5 4 (.int a) rfl]
 rfl
theorem nx {Γ ΓN:List Fn} {i:Nat} {e:IE} {is:NSs} {ρ:Ro} {d:D} {R:Option D} (h:ev Γ e false ρ=some d) (k:∀ ao,ao=aA2 ρ i (.dat d)→(aC8 Γ ΓN is ao).bind aC5=R):(aC8 Γ ΓN (.cons (.plain (.asg i e)) is) ρ).bind aC5=R:=by
 rw [aB1 (show runN Γ ΓN (.plain (.asg i e)) ρ=some (.next (aA2 ρ i (.dat d))) from by (dsimp only [runN];rw [aD1 h]))]
 exact k _ rfl
theorem nxC {Γ ΓN:List Fn} {i x:Nat} {elt:IE} {it:It} {ifs:ITs} {is:NSs} {ρ:Ro} {d:D} {R:Option D} (h:ev Γ (.comp elt x it ifs) false ρ=some d) (k:∀ ao,ao=aA2 ρ i (.dat d)→(aC8 Γ ΓN is ao).bind aC5=R):(aC8 Γ ΓN (.cons (.plain (.asgC i elt x it ifs)) is) ρ).bind aC5=R:=by
 rw [aB1 (show runN Γ ΓN (.plain (.asgC i elt x it ifs)) ρ=some (.next (aA2 ρ i (.dat d))) from by (dsimp only [runN];rw [cA1 h]))]
 exact k _ rfl
theorem nxI {Γ ΓN:List Fn} {t:IT} {a is:NSs} {ρ:Ro} {R:Option D} (h:tst Γ t ρ=some false) (k:(aC8 Γ ΓN is ρ).bind aC5=R):(aC8 Γ ΓN (.cons (.ite t a .nil) is) ρ).bind aC5=R:=by
 rw [aB1 (show runN Γ ΓN (.ite t a .nil) ρ=some (.next ρ) from by
  (dsimp only [runN,aC8];(rw [h,aC1];rfl)))]
 exact k
theorem nxT {Γ ΓN:List Fn} {i k:Nat} {es:IEs} {is:NSs} {ρ:Ro} {ds:List D} {f:Fn} {d:D} {R:Option D} (h:evs Γ es false ρ=some ds) (hf:ΓN[k]?=some f) (hg:f.g ds=some d) (K:∀ ao,ao=aA2 ρ i (.dat d)→(aC8 Γ ΓN is ao).bind aC5=R):(aC8 Γ ΓN (.cons (.turn i k es) is) ρ).bind aC5=R:=by
 rw [aB1 (show runN Γ ΓN (.turn i k es) ρ=some (.next (aA2 ρ i (.dat d))) from by
  (dsimp only [runN];simp only [h,hf,hg,aC1,bO9]))]
 exact K _ rfl
theorem bC6 {Γ:List Fn} {k:Nat} {a:IE} {tr:Bool} {ρ:Ro} {x d:D} {f:Fn} (h:ev Γ a false ρ=some x) (hf:Γ[k]?=some f) (hg:f.g [x]=some d):ev Γ (.call k (.cons a .nil)) tr ρ=some d:=by
 (dsimp only [ev,evs];simp only [h,hf,hg,aC1,bO9])
theorem aY2 {Γ:List Fn} {k:Nat} {a b:IE} {tr:Bool} {ρ:Ro} {x y d:D} {f:Fn} (h:ev Γ a false ρ=some x) (h2:ev Γ b false ρ=some y) (hf:Γ[k]?=some f) (hg:f.g [x,y]=some d):ev Γ (.call k (.cons a (.cons b .nil))) tr ρ=some d:=by
 (dsimp only [ev,evs];simp only [h,h2,hf,hg,aC1,bO9])
theorem cC1 {Γ:List Fn} {k:Nat} {a b c:IE} {tr:Bool} {ρ:Ro} {x y z d:D} {f:Fn} (h:ev Γ a false ρ=some x) (h2:ev Γ b false ρ=some y) (h3:ev Γ c false ρ=some z) (hf:Γ[k]?=some f) (hg:f.g [x,y,z]=some d):ev Γ (.call k (.cons a (.cons b (.cons c .nil)))) tr ρ=some d:=by
 (dsimp only [ev,evs];simp only [h,h2,h3,hf,hg,aC1,bO9])
theorem bF9 {Γ:List Fn} {a:IE} {tr:Bool} {ρ:Ro} {x m:Int} (h:ev Γ a tr ρ=some (.int x)) (hm:m≠0):ev Γ (.bin .mod a (.int m)) tr ρ=some (.int (x.fmod m)):=by
 refine aE8 h aB7 ?_
 rw [aW3,if_neg hm]
theorem cB9 {Γ:List Fn} {a:IE} {tr:Bool} {ρ:Ro} {x m:Int} (h:ev Γ a tr ρ=some (.int x)) (hm:0 < m∧m < 2 ^ 32):ev Γ (.bin .fdiv a (.int m)) tr ρ=some (.int (x.fdiv m)):=by
 refine aE8 h aB7 ?_
 rw [bO3,if_pos hm]
theorem dS8 {Γ:List Fn} {a:IE} {tr:Bool} {ρ:Ro} {x:Nat} (h:ev Γ a tr ρ=some (.int (x:Int))):ev Γ (.bin .mod a (.int 3)) tr ρ=some (.int ((x % 3:Nat):Int)):=by
 rw [bF9 h (by decide),Int.fmod_eq_emod_of_nonneg _ ((by decide))]
 rfl
theorem eC2 {Γ:List Fn} {a:IE} {tr:Bool} {ρ:Ro} {x y z:D} (h:ev Γ a tr ρ=some (.lst [x,y,z])):ev Γ (.idx a (.int 0)) tr ρ=some x∧ev Γ (.idx a (.int 1)) tr ρ=some y∧ev Γ (.idx a (.int 2)) tr ρ=some z :=
 ⟨bA8 (i:=0) h aB7 rfl (by decide) rfl,bA8 (i:=1) h aB7 rfl (by decide) rfl,bA8 (i:=2) h aB7 rfl (by decide) rfl⟩
noncomputable def eP1:D→D
 | .str x=>aC9 (aK8 x.cps.toList)
 | _=>.none
theorem cV4 {n:Nat} {w:Nat→List Nat} (W:Ws n w) (hb:∀ k,k < n→w k∈baseL) {pages:List (List (Nat × Nat))} (hp:∀ ps∈pages,∀ p∈ps,p.1≤p.2∧p.2 < n) {m:Kv} (B:BookIs w pages.flatten m) (k:Nat) (hk:k < n):val m (aK8 (w k))=(dT9 pages k:Int):=by
 rw [B.vals]
 unfold dT9
 have inj:∀ j,j < n→decide (aK8 (w k)=aK8 (w j))=(j == k):=by
  intro j hj
  rw [Bool.eq_iff_iff,decide_eq_true_eq,beq_iff_eq]
  constructor
  ·intro e
   have:=dR2 _ (hb k hk) _ (hb j hj) e
   exact (W.inj j k hj hk (by rw [this];exact List.infix_refl _))
  ·rintro rfl;rfl
 have hm:∀ p∈pages.flatten,p.1 < n∧p.2 < n:=by
  intro p h
  obtain ⟨ps,h1,h2⟩:=List.mem_flatten.mp h
  have:=hp ps h1 p h2
  exact aV7 (aL3 this.1 this.2) this.2
 rw [List.filter_congr fun p h=>inj p.1 (hm p h).1,List.filter_congr fun p h=>inj p.2 (hm p h).2,Int.natCast_add]
end Mine
end
section
open PySem PySem.W PyProof.Rows PySem.Calls PySem.Spec
set_option autoImplicit false
set_option maxRecDepth 100000
namespace Mine
theorem bS6 {Γ:List Fn} {a b:IE} {tr:Bool} {ρ:Ro} {P:List (List (Nat × Nat))} {i:Nat} {x:Int} (h1:ev Γ a tr ρ=some (.lst (P.map fun p=>.lst (aA6 p)))) (h2:ev Γ b tr ρ=some (.int x)) (hx:x=(i:Int)) (hi:i < P.length) (hl:P.length≤100):ev Γ (.idx a b) tr ρ=some (.lst (aA6 (P.getD i []))):=by
 refine bA8 (i:=i) h1 h2 hx (aL3 (bL8 hi) (aL3 hl (cl rfl))) ?_
 rw [List.getElem?_map,List.getElem?_eq_getElem hi,List.getD_eq_getElem?_getD,List.getElem?_eq_getElem hi]
 rfl
theorem dH8 {Γ:List Fn} {n:Nat} {w:Nat→List Nat} (W:Ws n w) (h0:0 < n) (hn:n≤7) {ρ:Ro} (x2:ρ.lookup 2=some (.dat (.int (n:Int)))) (x5:ρ.lookup 5=some (.dat (aB8 n w))) (x7:ρ.lookup 7=some (.dat (.lst [.str (S (aG2 n w 0)),.str (S (aG2 n w 1)),.str (S (aG2 n w 2))]))) :
  ev Γ (.comp (.comp (.bin .add (.upper (.idx (.idx (.var 5) (.var 16)) (.var 19))) (.idx (.var 7) (.bin .mod (.bin .add (.var 16) (.var 19)) (.int 3)))) 19 (.rng1 (.var 2)) (.nil)) 16 (.rng1 (.var 2)) (.nil)) false ρ=some (bH2 n w):=by
 refine aN5 _ (aA1 x2) (aA9 hn (cl rfl)) fun f hf=>?_
 have y2:List.lookup 2 ((16,LV.dat (.int (f:Int)))::aP4 ρ)=some (.dat (.int (n:Int))):=(aB4 (by decide)).trans (aC6 x2)
 have y5:List.lookup 5 ((16,LV.dat (.int (f:Int)))::aP4 ρ)=some (.dat (aB8 n w)):=(aB4 (by decide)).trans (aC6 x5)
 have y7:List.lookup 7 ((16,LV.dat (.int (f:Int)))::aP4 ρ)=some (.dat (.lst [.str (S (aG2 n w 0)),.str (S (aG2 n w 1)),.str (S (aG2 n w 2))])):=(aB4 (by decide)).trans (aC6 x7)
 have y16:List.lookup 16 ((16,LV.dat (.int (f:Int)))::aP4 ρ)=some (.dat (.int (f:Int))):=aD6
 generalize aQ:(16,LV.dat (.int (f:Int)))::aP4 ρ=ae at y2 y5 y7 y16
 refine aN5 (fun l=>.str (S (ask n w f l))) (aA1 y2) (aA9 hn (cl rfl)) fun l hl=>?_
 have z5:List.lookup 5 ((19,LV.dat (.int (l:Int)))::aP4 ae)=some (.dat (aB8 n w)):=(aB4 (by decide)).trans (aC6 y5)
 have z7:List.lookup 7 ((19,LV.dat (.int (l:Int)))::aP4 ae)=some (.dat (.lst [.str (S (aG2 n w 0)),.str (S (aG2 n w 1)),.str (S (aG2 n w 2))])):=(aB4 (by decide)).trans (aC6 y7)
 have z16:List.lookup 16 ((19,LV.dat (.int (l:Int)))::aP4 ae)=some (.dat (.int (f:Int))):=(aB4 (by decide)).trans (aC6 y16)
 have z19:List.lookup 19 ((19,LV.dat (.int (l:Int)))::aP4 ae)=some (.dat (.int (l:Int))):=aD6
 have hnl:=bE6 W hn (f:=f) hl
 have hna:=aS2 W (f:=f) hl
 have hal:=(bU6 W hn hf hl).2
 have e1:∀ tr,ev Γ (.idx (.idx (.var 5) (.var 16)) (.var 19)) tr ((19,LV.dat (.int (l:Int)))::aP4 ae)=some (.str (S (if f≤l then nm w f l else []))):=fun tr =>
  aF7 (aF7 (x:=aB8 n w) (aA1 z5) (aA1 z16) (aG3 hf (aA9 hn (cl rfl)))) (aA1 z19) (aG3 hl (aA9 hn (cl rfl)))
 have e2:ev Γ (.upper (.idx (.idx (.var 5) (.var 16)) (.var 19))) false ((19,LV.dat (.int (l:Int)))::aP4 ae)=some (.str (S (if f≤l then (nm w f l).map up1 else []))):=by
  rw [bN4 (e1 true) (by
   split
   ·exact aA9 hnl (cl rfl)
   ·simp) (fun c hc=>by
   split at hc
   ·exact (hna c hc).1
   ·cases hc)]
  split<;>rfl
 have e3:ev Γ (.idx (.var 7) (.bin .mod (.bin .add (.var 16) (.var 19)) (.int 3))) false ((19,LV.dat (.int (l:Int)))::aP4 ae)=some (.str (S (aG2 n w ((f+l) % 3)))):=by
  have em:=dS8 (bG0 (Γ:=Γ) (tr:=false) (aA1 z16) (aA1 z19))
  refine bA8 (i:=(f+l) % 3) (aA1 z7) em rfl (aM7 eT3 (cl rfl)) ?_
  have hm:(f+l) % 3=0∨(f+l) % 3=1∨(f+l) % 3=2:=i_m3
  rcases hm with q | q | q<;>rw [q]<;>rfl
 refine aE8 e2 e3 (aO4 ?_)
 unfold ask at hal
 rw [List.length_append] at hal
 exact hal
theorem cZ3 {Γ:List Fn} {n:Nat} {w:Nat→List Nat} (W:Ws n w) (h0:0 < n) (hn:n≤7) {ρ:Ro} (x6:ρ.lookup 6=some (.dat (.str (S (aI0 n w))))) :
  ev Γ (.list (.cons (.str "") (.cons (.bin .add (.str "*/") (.var 6)) (.cons (.bin .add (.bin .add (.bin .add (.str "*/") (.var 6)) (.str "/")) (.var 6)) .nil)))) false ρ=some (.lst [.str (S (aG2 n w 0)),.str (S (aG2 n w 1)),.str (S (aG2 n w 2))]):=by
 have hl:(aI0 n w).length≤710:=bE6 W hn (f:=0) (l:=n - 1) (dZ0 h0)
 have ls:(("*/":String):Str)=S [42,47]:=by decide +kernel
 have a1:ev Γ (.bin .add (.str "*/") (.var 6)) false ρ=some (.str (S ([42,47]++aI0 n w))):=aE8 (x:=.str (S [42,47])) (by rw [aH9,ls]) (aA1 x6) (aO4 (by simp;exact aX4 cL0 hl rfl))
 have a2:ev Γ (.bin .add (.bin .add (.str "*/") (.var 6)) (.str "/")) false ρ=some (.str (S ([42,47]++aI0 n w++[47]))):=aE8 a1 (y:=.str (S [47])) (by rw [aH9,bS2]) (aO4 (by simp;exact aA9 hl (cl rfl)))
 have a3:ev Γ (.bin .add (.bin .add (.bin .add (.str "*/") (.var 6)) (.str "/")) (.var 6)) false ρ=some (.str (S ([42,47]++aI0 n w++[47]++aI0 n w))):=aE8 a2 (aA1 x6) (aO4 (by simp;exact eU8 hl rfl))
 (dsimp only [ev])
 (dsimp only [evs];simp only [a1,a3,aH9,aZ6,aC1,bO9])
 rw [if_pos (by simp [lim])]
 rfl
theorem dS7 {Γ:List Fn} {a hi:IE} {tr:Bool} {ρ:Ro} {x y d:D} (h1:ev Γ a tr ρ=some x) (h2:ev Γ hi tr ρ=some y) (h3:cZ9 x none y=some d):ev Γ (.slcTo a hi) tr ρ=some d:=by
 (dsimp only [ev];simp only [h1,h2,aC1,h3])
theorem bQ6 (n mm:Nat):∀ l:List (Nat × Nat),(∀ p∈l,p.1≤p.2∧p.2 < n)→(l.map (aR5 n mm)).flatMap List.reverse=((l.map fun p=>(n - 1 - p.2,n - 1 - p.1)).map (aR5 n mm)).flatten
 | [],_=>rfl
 | p::l,h=>by
  rw [List.map_cons,List.flatMap_cons,List.map_cons,List.map_cons,List.flatten_cons,bQ6 n mm l fun q hq=>h q (.tail _ hq),cY4 n mm (h p (.head _)).1 (h p (.head _)).2]
theorem dG7 {tr:Bool} {ρ:Ro} {a:IE} {x d:D} (ha:ev ab a false ρ=some x) (hg:aT0 [x]=some d):ev ab (.call 0 (.cons a .nil)) tr ρ=some d:=bC6 ha (show ab[0]?=some ⟨_,aT0⟩ from rfl) hg
theorem dG1 {tr:Bool} {ρ:Ro} {a b:IE} {x y d:D} (ha:ev ab a false ρ=some x) (hb:ev ab b false ρ=some y) (hg:aS5 [x,y]=some d):ev ab (.call 1 (.cons a (.cons b .nil))) tr ρ=some d:=aY2 ha hb (show ab[1]?=some ⟨_,aS5⟩ from rfl) hg
theorem dG4 {tr:Bool} {ρ:Ro} {a b:IE} {x y d:D} (ha:ev ab a false ρ=some x) (hb:ev ab b false ρ=some y) (hg:aS8 [x,y]=some d):ev ab (.call 2 (.cons a (.cons b .nil))) tr ρ=some d:=aY2 ha hb (show ab[2]?=some ⟨_,aS8⟩ from rfl) hg
theorem dG3 {tr:Bool} {ρ:Ro} {a b:IE} {x y d:D} (ha:ev ab a false ρ=some x) (hb:ev ab b false ρ=some y) (hg:aS7 [x,y]=some d):ev ab (.call 3 (.cons a (.cons b .nil))) tr ρ=some d:=aY2 ha hb (show ab[3]?=some ⟨_,aS7⟩ from rfl) hg
theorem bU1 {tr:Bool} {ρ:Ro} {a:IE} {x d:D} (ha:ev ab a false ρ=some x) (hg:aI8 [x]=some d):ev ab (.call 4 (.cons a .nil)) tr ρ=some d:=bC6 ha (show ab[4]?=some ⟨_,aI8⟩ from rfl) hg
theorem bT9 {tr:Bool} {ρ:Ro} {a b:IE} {x y d:D} (ha:ev ab a false ρ=some x) (hb:ev ab b false ρ=some y) (hg:aI7 [x,y]=some d):ev ab (.call 5 (.cons a (.cons b .nil))) tr ρ=some d:=aY2 ha hb (show ab[5]?=some ⟨_,aI7⟩ from rfl) hg
theorem dG5 {tr:Bool} {ρ:Ro} {a b:IE} {x y d:D} (ha:ev ab a false ρ=some x) (hb:ev ab b false ρ=some y) (hg:aS9 [x,y]=some d):ev ab (.call 6 (.cons a (.cons b .nil))) tr ρ=some d:=aY2 ha hb (show ab[6]?=some ⟨_,aS9⟩ from rfl) hg
theorem dG2 {tr:Bool} {ρ:Ro} {a b c:IE} {x y z d:D} (ha:ev ab a false ρ=some x) (hb:ev ab b false ρ=some y) (hc:ev ab c false ρ=some z) (hg:aS6 [x,y,z]=some d):ev ab (.call 7 (.cons a (.cons b (.cons c .nil)))) tr ρ=some d:=cC1 ha hb hc (show ab[7]?=some ⟨_,aS6⟩ from rfl) hg
theorem cJ6 {tr:Bool} {ρ:Ro} {a:IE} {x d:D} (ha:ev ab a false ρ=some x) (hg:aJ9 [x]=some d):ev ab (.call 8 (.cons a .nil)) tr ρ=some d:=bC6 ha (show ab[8]?=some ⟨_,aJ9⟩ from rfl) hg
theorem dG6 {tr:Bool} {ρ:Ro} {a:IE} {x d:D} (ha:ev ab a false ρ=some x) (hg:aI9 [x]=some d):ev ab (.call 9 (.cons a .nil)) tr ρ=some d:=bC6 ha (show ab[9]?=some ⟨_,aI9⟩ from rfl) hg
theorem bU0 {tr:Bool} {ρ:Ro} {a b c:IE} {x y z d:D} (ha:ev ab a false ρ=some x) (hb:ev ab b false ρ=some y) (hc:ev ab c false ρ=some z) (hg:aO6 [x,y,z]=some d):ev ab (.call 10 (.cons a (.cons b (.cons c .nil)))) tr ρ=some d:=cC1 ha hb hc (show ab[10]?=some ⟨_,aO6⟩ from rfl) hg
theorem dM9 {i:Nat} {es:IEs} {is:NSs} {ρ:Ro} {x y z:D} {d:D} {R:Option D} (h:evs ab es false ρ=some [x,y,z]) (hg:aY1 [x,y,z]=some d) (K:∀ ao,ao=aA2 ρ i (.dat d)→(aC8 ab aK is ao).bind aC5=R):(aC8 ab aK (.cons (.turn i 0 es) is) ρ).bind aC5=R:=nxT h (show aK[0]?=some ⟨_,aY1⟩ from rfl) hg K
theorem dM8 {i:Nat} {es:IEs} {is:NSs} {ρ:Ro} {x y:D} {d:D} {R:Option D} (h:evs ab es false ρ=some [x,y]) (hg:aO7 [x,y]=some d) (K:∀ ao,ao=aA2 ρ i (.dat d)→(aC8 ab aK is ao).bind aC5=R):(aC8 ab aK (.cons (.turn i 1 es) is) ρ).bind aC5=R:=nxT h (show aK[1]?=some ⟨_,aO7⟩ from rfl) hg K
theorem main_ok (ns:List Int) (hns:ns.length≤63):bF4 [.lst (ns.map .int)]=some (.bool true):=by
 refine hid fun Gz zz=>?_
 obtain ⟨a,b,c,hcells⟩:=dG8 ns hns
 have r1:=Int.fmod_lt_of_pos a (b:=4) (by decide)
 have r2:=Int.fmod_nonneg_of_pos a (b:=4) (by decide)
 obtain ⟨n,hN⟩:=Int.eq_ofNat_of_zero_le (show 0≤2+a.fmod 4 from eP9 r2 rfl)
 have n2:2≤n:=by lia
 have n5:n≤5:=by lia
 obtain ⟨got,hgl,hgn,hgb,hsigns⟩:=dA0 n ((a.fdiv 4).fmod 2520) (aA9 n5 (cl rfl))
 obtain ⟨mk,hmk,hmarks⟩:=dD1 n (c.fmod 32768) (aA9 n5 (cl rfl))
 obtain ⟨w,hwe⟩:∃ w:Nat→List Nat,w=fun k=>got.getD k []:=⟨_,rfl⟩
 have W:Ws n w:=by rw [hwe];exact hgl ▸ eI2 got hgn hgb
 have hsD:D.lst (aC2 got)=aC3 n w:=by
  have e:=cZ4 got
  rw [hgl] at e
  rw [hwe,e]
 rw [hsD] at hsigns
 have hb:∀ k,k < n→w k∈baseL:=fun k hk=>by
  refine hgb _ ?_
  rw [hwe]
  show got.getD k []∈got
  rw [List.getD_eq_getElem?_getD,List.getElem?_eq_getElem (bW3 hgl hk)]
  exact List.getElem_mem (bW3 hgl hk)
 clear hsD hwe
 obtain ⟨ps,hps,hpl,hdrawn⟩:=dF3 n (b.fmod (4 ^ 15)) (aA9 n5 (cl rfl))
 refine zz ?_;clear zz Gz
 have hpages:=dB5 W (bR0 (bQ7 n2)) (aA9 n5 (cl rfl)) ps hps (aA9 hpl (cl rfl))
 have hgood:=cG1 n2 n5 ps
 have hPl:=aX6 n (n+2) (aJ4 n ps)
 have hPm:∀ qs∈aB5 n (n+2) (aJ4 n ps),∀ p∈qs,p.1≤p.2∧p.2 < n:=aX5 n (n+2) (aJ4 n ps) bE8
 have hPs:∀ qs∈aB5 n (n+2) (aJ4 n ps),qs.length≤49:=aV0 n (aA9 n5 (cl rfl)) (n+2) (aJ4 n ps) (bE9 (aA9 n5 (cl rfl)))
 generalize aB5 n (n+2) (aJ4 n ps)=P at hpages hgood hPl hPm hPs
 unfold bX6 at hgood
 simp only [Bool.and_eq_true,beq_iff_eq,List.all_eq_true,List.mem_range] at hgood
 obtain ⟨⟨g1,g2⟩,g3⟩:=hgood
 have hQm:∀ qs∈P.take (n+1),∀ p∈qs,p.1≤p.2∧p.2 < n:=fun qs h=>hPm qs (List.mem_of_mem_take h)
 have hnn:n*n≤25:=Nat.mul_le_mul n5 n5
 obtain ⟨m,hbook,B⟩:=dU1 W hb (aA9 n5 (cl rfl)) (P.take (n+1)) hQm (eT1 g3 hnn n5 rfl)
 refine (bC7 (by rfl)).trans ?_
 show (aC8 ab aK aT8 [(0,.dat (.lst (ns.map .int)))]).bind aC5=_
 unfold aT8
 refine nx (dG7 (aA1 rfl) hcells) fun ae h1=>?_
 have a1:ae.lookup 1=some (.dat (.lst [.int a,.int b,.int c])):=lkE h1
 clear h1
 have c1:=fun tr=>eC2 (Γ:=ab) (tr:=tr) (aA1 a1)
 refine nx (d:=.int (n:Int)) (by rw [aL0 aB7 (bF9 (c1 false).1 (by decide)),hN]) fun aq h2=>?_
 have b1:aq.lookup 1=some (.dat (.lst [.int a,.int b,.int c])):=lkS h2 (by decide) a1
 have b2:aq.lookup 2=some (.dat (.int (n:Int))):=lkE h2
 clear h2 c1 a1
 have c1:=fun tr=>eC2 (Γ:=ab) (tr:=tr) (aA1 b1)
 have q1:ev ab (.bin .mod (.bin .fdiv (.idx (.var 1) (.int 0)) (.int 4)) (.int 2520)) false aq=some (.int ((a.fdiv 4).fmod 2520)):=bF9 (cB9 (c1 false).1 (by decide)) (by decide)
 have q2:ev ab (.call 1 (.cons (.var 2) (.cons (.bin .mod (.bin .fdiv (.idx (.var 1) (.int 0)) (.int 4)) (.int 2520)) .nil))) false aq=some (aC3 n w):=dG1 (aA1 b2) q1 hsigns
 refine nx q2 fun aG h3=>?_
 have d1:aG.lookup 1=some (.dat (.lst [.int a,.int b,.int c])):=lkS h3 (by decide) b1
 have d2:aG.lookup 2=some (.dat (.int (n:Int))):=lkS h3 (by decide) b2
 have d3:aG.lookup 3=some (.dat (aC3 n w)):=lkE h3
 clear h3 c1 b1 b2
 have c1:=fun tr=>eC2 (Γ:=ab) (tr:=tr) (aA1 d1)
 refine nx (dG4 (aA1 d2) (bF9 (c1 false).2.2 (by decide)) hmarks) fun bb h4=>?_
 have e1:bb.lookup 1=some (.dat (.lst [.int a,.int b,.int c])):=lkS h4 (by decide) d1
 have e2:bb.lookup 2=some (.dat (.int (n:Int))):=lkS h4 (by decide) d2
 have e3:bb.lookup 3=some (.dat (aC3 n w)):=lkS h4 (by decide) d3
 have e4:bb.lookup 4=some (.dat (aK7 n mk)):=lkE h4
 clear h4 c1 d1 d2 d3
 refine nx (dG3 (aA1 e3) (aA1 e4) (dC6 n w mk (aA9 n5 (cl rfl)) W.wd hmk)) fun aM h5=>?_
 have f1:aM.lookup 1=some (.dat (.lst [.int a,.int b,.int c])):=lkS h5 (by decide) e1
 have f2:aM.lookup 2=some (.dat (.int (n:Int))):=lkS h5 (by decide) e2
 have f3:aM.lookup 3=some (.dat (aC3 n w)):=lkS h5 (by decide) e3
 have f4:aM.lookup 4=some (.dat (aK7 n mk)):=lkS h5 (by decide) e4
 have f5:aM.lookup 5=some (.dat (aB8 n w)):=lkE h5
 clear h5 e1 e2 e3 e4
 have t1:tst ab (.cmp .ne (.var 5) (.call 4 (.cons (.var 3) .nil))) aM=some false :=
  aD8 (aA1 f5) (bU1 (aA1 f3) (eD9 n w (aA9 n5 (cl rfl)) W.wd)) (aW2 (bX3 W))
 have t2:tst ab (.not (.tr (.call 5 (.cons (.var 3) (.cons (.var 4) .nil))))) aM=some false:=by
  show (tst _ _ _).map _=_;rw [aW6 (bT9 (aA1 f3) (aA1 f4) (dZ8 n w mk (bR0 (bQ7 n2)) n5 (fun k hk=>dU2 _ (hb k hk)) (fun k hk c hc=>((W.wd k hk).ch c hc).1) hmk))]
  rfl
 refine nxI (bV5 t1 t2) ?_
 clear t1 t2 f4
 have ew:ev ab (.idx (.idx (.var 5) (.int 0)) (.bin .sub (.var 2) (.int 1))) false aM=some (.str (S (aI0 n w))):=by
  have i1:ev ab (.idx (.var 5) (.int 0)) false aM=some (cN9 n w 0):=aF7 (x:=aB8 n w) (aA1 f5) aB7 (bN0 (i:=0) (by decide) (by show 0 < n;exact bR0 (bQ7 n2)) (aA9 n5 (cl rfl)))
  rw [aF7 i1 (aT1 (aA1 f2) aB7) (bN0 (n:=n) (g:=cell w 0) (eW7 (bQ7 n2)) (eL7 (bQ7 n2)) (aA9 n5 (cl rfl)))]
  unfold cell aI0
  rw [if_pos (Nat.zero_le _),show ((n:Int) - 1).toNat=n - 1 from eP6]
 refine nx ew fun bj h6=>?_
 have a1:bj.lookup 1=some (.dat (.lst [.int a,.int b,.int c])):=lkS h6 (by decide) f1
 have a2:bj.lookup 2=some (.dat (.int (n:Int))):=lkS h6 (by decide) f2
 have a3:bj.lookup 3=some (.dat (aC3 n w)):=lkS h6 (by decide) f3
 have a5:bj.lookup 5=some (.dat (aB8 n w)):=lkS h6 (by decide) f5
 have a6:bj.lookup 6=some (.dat (.str (S (aI0 n w)))):=lkE h6
 clear h6 f1 f2 f3 f5 ew
 refine nx (cZ3 W (bR0 (bQ7 n2)) (aA9 n5 (cl rfl)) a6) fun ba h7=>?_
 have b1:ba.lookup 1=some (.dat (.lst [.int a,.int b,.int c])):=lkS h7 (by decide) a1
 have b2:ba.lookup 2=some (.dat (.int (n:Int))):=lkS h7 (by decide) a2
 have b3:ba.lookup 3=some (.dat (aC3 n w)):=lkS h7 (by decide) a3
 have b5:ba.lookup 5=some (.dat (aB8 n w)):=lkS h7 (by decide) a5
 have b7:ba.lookup 7=some (.dat (.lst [.str (S (aG2 n w 0)),.str (S (aG2 n w 1)),.str (S (aG2 n w 2))])):=lkE h7
 clear h7 a1 a2 a3 a5 a6
 refine nxC (dH8 W (bR0 (bQ7 n2)) (aA9 n5 (cl rfl)) b2 b5 b7) fun bN h8=>?_
 have d1:bN.lookup 1=some (.dat (.lst [.int a,.int b,.int c])):=lkS h8 (by decide) b1
 have d2:bN.lookup 2=some (.dat (.int (n:Int))):=lkS h8 (by decide) b2
 have d3:bN.lookup 3=some (.dat (aC3 n w)):=lkS h8 (by decide) b3
 have d5:bN.lookup 5=some (.dat (aB8 n w)):=lkS h8 (by decide) b5
 have d8:bN.lookup 8=some (.dat (bH2 n w)):=lkE h8
 clear h8 b1 b2 b3 b5 b7
 have c1:=fun tr=>eC2 (Γ:=ab) (tr:=tr) (aA1 d1)
 have ep:ev ab (.bin .pow (.int 4) (.int 15)) false bN=some (.int (4 ^ 15)):=by
  refine aE8 aB7 aB7 ?_
  rw [cV2,if_pos (by decide)]
  rfl
 have edr:ev ab (.bin .mod (.idx (.var 1) (.int 1)) (.bin .pow (.int 4) (.int 15))) false bN=some (.int (b.fmod (4 ^ 15))):=by
  refine aE8 (c1 false).2.1 ep ?_
  rw [aW3,if_neg (by decide)]
 refine nx (dG2 (aA1 d5) (aA1 d8) (dG5 (aA1 d2) edr hdrawn) hpages) fun bO h9=>?_
 have e1:bO.lookup 1=some (.dat (.lst [.int a,.int b,.int c])):=lkS h9 (by decide) d1
 have e2:bO.lookup 2=some (.dat (.int (n:Int))):=lkS h9 (by decide) d2
 have e3:bO.lookup 3=some (.dat (aC3 n w)):=lkS h9 (by decide) d3
 have e5:bO.lookup 5=some (.dat (aB8 n w)):=lkS h9 (by decide) d5
 have e9:bO.lookup 9=some (.dat (.lst (P.map fun p=>.lst (aA6 p)))):=lkE h9
 clear h9 d1 d2 d3 d5 d8 c1 ep edr
 have hPne:P≠[]:=fun z=>by rw [z] at hPl;simp at hPl
 refine nxI (aD8 (aA1 e9) (y:=.lst []) rfl (dB6 hPne)) ?_
 have esl:ev ab (.slcTo (.var 9) (.bin .add (.var 2) (.int 1))) false bO=some (.lst ((P.take (n+1)).map fun p=>.lst (aA6 p))):=by
  refine dS7 (aA1 e9) (aL0 (aA1 e2) (aB7 (i:=1))) ?_
  (dsimp only [cZ9];rw [if_pos ⟨eW4,by rw [List.length_map,hPl];lia,by rw [List.length_map,hPl];exact bJ3 (aA9 n5 (cl rfl))⟩,show ((n:Int)+1).toNat=n+1 from eV7,List.map_take])
 have eargs:evs ab (.cons (.var 3) (.cons (.var 5) (.cons (.slcTo (.var 9) (.bin .add (.var 2) (.int 1))) .nil))) false bO=some [aC3 n w,aB8 n w,.lst ((P.take (n+1)).map fun p=>.lst (aA6 p))]:=by
  (dsimp only [evs];simp only [esl,aA1 e3,aA1 e5,aC1,bO9])
 refine dM9 eargs hbook fun bk h10=>?_
 have f1:bk.lookup 1=some (.dat (.lst [.int a,.int b,.int c])):=lkS h10 (by decide) e1
 have f2:bk.lookup 2=some (.dat (.int (n:Int))):=lkS h10 (by decide) e2
 have f3:bk.lookup 3=some (.dat (aC3 n w)):=lkS h10 (by decide) e3
 have f9:bk.lookup 9=some (.dat (.lst (P.map fun p=>.lst (aA6 p)))):=lkS h10 (by decide) e9
 have f10:bk.lookup 10=some (.dat (.dct m)):=lkE h10
 clear h10 e1 e2 e3 e5 e9 esl eargs
 have ek:ev ab (.comp (.idx (.call 8 (.cons (.var 17) .nil)) (.int 1)) 17 (.seq (.var 3)) (.nil)) false bk=some (aR4 n fun k=>aC9 (aK8 (w k))):=by
  rw [dF6 eP1 (aA1 f3) (by simp;exact aA9 n5 (cl rfl)) fun d hd=>?_]
  ·rw [List.map_map]
   congr 2
  ·obtain ⟨k,hk,rfl⟩:=List.mem_map.mp hd
   have hk':=List.mem_range.mp hk
   refine bA8 (i:=1) (cJ6 (aA1 aD6) (bJ1 (w k) (hb k hk'))) aB7 rfl (by decide) ?_
   show some (aC9 (aK8 (w k)))=some (eP1 (.str (S (w k))))
   rfl
 refine nx ek fun aN h11=>?_
 have a1:aN.lookup 1=some (.dat (.lst [.int a,.int b,.int c])):=lkS h11 (by decide) f1
 have a2:aN.lookup 2=some (.dat (.int (n:Int))):=lkS h11 (by decide) f2
 have a9:aN.lookup 9=some (.dat (.lst (P.map fun p=>.lst (aA6 p)))):=lkS h11 (by decide) f9
 have a10:aN.lookup 10=some (.dat (.dct m)):=lkS h11 (by decide) f10
 have a11:aN.lookup 11=some (.dat (aR4 n fun k=>aC9 (aK8 (w k)))):=lkE h11
 clear h11 f1 f2 f3 f9 f10 ek
 have eb:ev ab (.comp (.bin .add (.dget (.var 10) (.idx (.var 11) (.var 18)) (.int 0)) (.dget (.var 10) (.idx (.var 11) (.bin .sub (.bin .sub (.var 2) (.int 1)) (.var 18))) (.int 0))) 18 (.rng1 (.var 2)) (.nil)) false aN=some (aR4 n fun _=>.int ((2*n+2:Nat):Int)):=by
  refine aN5 _ (aA1 a2) (aA9 n5 (cl rfl)) fun k hk=>?_
  have z2:List.lookup 2 ((18,LV.dat (.int (k:Int)))::aP4 aN)=some (.dat (.int (n:Int))):=(aB4 (by decide)).trans (aC6 a2)
  have z10:List.lookup 10 ((18,LV.dat (.int (k:Int)))::aP4 aN)=some (.dat (.dct m)):=(aB4 (by decide)).trans (aC6 a10)
  have z11:List.lookup 11 ((18,LV.dat (.int (k:Int)))::aP4 aN)=some (.dat (aR4 n fun k=>aC9 (aK8 (w k)))):=(aB4 (by decide)).trans (aC6 a11)
  have z18:List.lookup 18 ((18,LV.dat (.int (k:Int)))::aP4 aN)=some (.dat (.int (k:Int))):=aD6
  have dg:∀ (e:IE) (j:Nat),j < n→ev ab e true ((18,LV.dat (.int (k:Int)))::aP4 aN)=some (aC9 (aK8 (w j)))→ev ab (.dget (.var 10) e (.int 0)) false ((18,LV.dat (.int (k:Int)))::aP4 aN)=some (.int (dT9 (P.take (n+1)) j:Int)):=by
   intro e j hj he
   show (ev _ _ true _).bind _=_;rw [aA1 z10,aC1,he,aC1,aB7,aC1]
   simp only [bF0]
   have:=cV4 W hb hQm B j hj
   unfold val at this
   rw [this]
  have i1:ev ab (.idx (.var 11) (.var 18)) true ((18,LV.dat (.int (k:Int)))::aP4 aN)=some (aC9 (aK8 (w k))):=aF7 (aA1 z11) (aA1 z18) (aG3 hk (aA9 n5 (cl rfl)))
  have i2:ev ab (.idx (.var 11) (.bin .sub (.bin .sub (.var 2) (.int 1)) (.var 18))) true ((18,LV.dat (.int (k:Int)))::aP4 aN)=some (aC9 (aK8 (w (n - 1 - k)))):=by
   rw [aF7 (aA1 z11) (aT1 (aT1 (aA1 z2) aB7) (aA1 z18)) (bN0 (n:=n) (g:=fun k=>aC9 (aK8 (w k))) (eW5 hk) (eL8 hk) (aA9 n5 (cl rfl))),show ((n:Int) - 1 - k).toNat=n - 1 - k from eP4]
  rw [aL0 (dg _ k hk i1) (dg _ (n - 1 - k) (eO2 hk) i2)]
  have gk:=g2 k hk
  have e:((dT9 (P.take (n+1)) k:Nat):Int)+((dT9 (P.take (n+1)) (n - 1 - k):Nat):Int)=((2*n+2:Nat):Int):=eP8 gk
  rw [e]
 refine nxC eb fun aP h12=>?_
 have b1:aP.lookup 1=some (.dat (.lst [.int a,.int b,.int c])):=lkS h12 (by decide) a1
 have b2:aP.lookup 2=some (.dat (.int (n:Int))):=lkS h12 (by decide) a2
 have b9:aP.lookup 9=some (.dat (.lst (P.map fun p=>.lst (aA6 p)))):=lkS h12 (by decide) a9
 have b10:aP.lookup 10=some (.dat (.dct m)):=lkS h12 (by decide) a10
 have b12:aP.lookup 12=some (.dat (aR4 n fun _=>.int ((2*n+2:Nat):Int))):=lkE h12
 clear h12 a1 a2 a9 a10 a11 eb
 have em1:∀ {x y:IE} {p q:Int},ev ab x true aP=some (.int p)→ev ab y true aP=some (.int q)→p.natAbs < 2 ^ 32→ev ab (.bin .mul x y) true aP=some (.int (p*q)):=by
  intro x y p q h1 h2 hp
  refine aE8 h1 h2 ?_
  rw [dH2,if_pos hp]
 have t1:tst ab (.cmp .ne (.var 12) (.bin .mul (.list (.cons (.bin .add (.bin .mul (.int 2) (.var 2)) (.int 2)) .nil)) (.var 2))) aP=some false:=by
  have ei:ev ab (.bin .add (.bin .mul (.int 2) (.var 2)) (.int 2)) true aP=some (.int ((2*n+2:Nat):Int)):=by
   rw [aL0 (em1 aB7 (aA1 b2) (by decide)) aB7]
   congr 2
  have el:ev ab (.list (.cons (.bin .add (.bin .mul (.int 2) (.var 2)) (.int 2)) .nil)) true aP=some (.lst [.int ((2*n+2:Nat):Int)]):=by
   (dsimp only [ev])
   (dsimp only [evs];simp only [ei,aC1,bO9])
   rw [if_pos (by simp [lim])]
  have er:(List.replicate n [D.int ((2*n+2:Nat):Int)]).flatten=(List.range n).map fun _=>D.int ((2*n+2:Nat):Int):=by
   rw [List.map_const',List.length_range]
   generalize D.int ((2*n+2:Nat):Int)=d
   have:∀ k:Nat,(List.replicate k [d]).flatten=List.replicate k d:=by
    intro k
    induction k with
    | zero=>rfl
    | succ k ih=>rw [List.replicate_succ,List.flatten_cons,ih,List.replicate_succ];rfl
   exact this n
  have ex:ev ab (.bin .mul (.list (.cons (.bin .add (.bin .mul (.int 2) (.var 2)) (.int 2)) .nil)) (.var 2)) true aP=some (aR4 n fun _=>.int ((2*n+2:Nat):Int)):=by
   refine aE8 el (aA1 b2) ?_
   rw [dH1,if_pos ⟨bA0 rfl,i_l (dE4 n5 rfl),by simp;exact aA9 n5 (cl rfl)⟩,Int.toNat_natCast,er]
  refine aD8 (aA1 b12) ex (aW2 ?_)
  (dsimp only [aB0])
  refine aJ8 fun d hd=>?_
  obtain ⟨_,_,rfl⟩:=List.mem_map.mp hd
  rfl
 have t2:tst ab (.cmp .ne (.call 9 (.cons (.var 10) .nil)) (.bin .add (.bin .mul (.var 2) (.var 2)) (.var 2))) aP=some false:=by
  refine aD8 (dG6 (aA1 b10) (dF5 m)) (aL0 (em1 (aA1 b2) (aA1 b2) (eW6 n5 rfl)) (aA1 b2)) (cJ4 _ _ ?_)
  rw [B.total]
  have:((n:Int)*n+n)=((n*n+n:Nat):Int):=by rw [Int.natCast_add,Int.natCast_mul]
  rw [this]
  exact eX4 g3
 refine nxI (bV5 t1 t2) ?_
 clear t1 t2 b12 em1 b10
 have c1:=fun tr=>eC2 (Γ:=ab) (tr:=tr) (aA1 b1)
 have s1:=Int.fmod_lt_of_pos (c.fdiv 32768) (b:=255) (by decide)
 have s2:=Int.fmod_nonneg_of_pos (c.fdiv 32768) (b:=255) (by decide)
 obtain ⟨mm,hM⟩:=Int.eq_ofNat_of_zero_le (show 0≤1+(c.fdiv 32768).fmod 255 from eP9 s2 rfl)
 have hmm:mm < 256:=eW8 s1 hM
 refine nx (d:=.int (mm:Int)) (by rw [aL0 aB7 (bF9 (cB9 (c1 false).2.2 (by decide)) (by decide)),hM]) fun bp h13=>?_
 have d2:bp.lookup 2=some (.dat (.int (n:Int))):=lkS h13 (by decide) b2
 have d9:bp.lookup 9=some (.dat (.lst (P.map fun p=>.lst (aA6 p)))):=lkS h13 (by decide) b9
 have d13:bp.lookup 13=some (.dat (.int (mm:Int))):=lkE h13
 clear h13 b1 b2 b9 c1 s1 s2
 have mem:∀ i,i < P.length→P.getD i []∈P:=fun i hi=>by
  rw [List.getD_eq_getElem?_getD,List.getElem?_eq_getElem hi]
  exact List.getElem_mem hi
 have m0:=mem 0 (bW3 hPl dV2)
 have mN:=mem (n+1) (bQ7 (dA7 hPl))
 have o0:=bR5 n mm (P.getD 0 []) (aA9 n5 (cl rfl)) hmm (hPs _ m0)
 have oN:=bR5 n mm (P.getD (n+1) []).reverse (aA9 n5 (cl rfl)) hmm (by rw [List.length_reverse];exact hPs _ mN)
 have e0:ev ab (.call 10 (.cons (.idx (.var 9) (.int 0)) (.cons (.var 2) (.cons (.var 13) .nil)))) false bp=some (.bytes ((P.getD 0 []).map (aR5 n mm)).flatten.toArray) :=
  bU0 (bS6 (i:=0) (aA1 d9) aB7 rfl (bW3 hPl dV2) (by lia)) (aA1 d2) (aA1 d13) o0
 have eargs:evs ab (.cons (.call 10 (.cons (.idx (.var 9) (.int 0)) (.cons (.var 2) (.cons (.var 13) .nil)))) (.cons (.var 2) .nil)) false bp=some [.bytes ((P.getD 0 []).map (aR5 n mm)).flatten.toArray,.int (n:Int)]:=by
  (dsimp only [evs];simp only [e0,aA1 d2,aC1,bO9])
 have hsw:=dN4 n ((P.getD 0 []).map (aR5 n mm)) n2 n5 (fun x hx=>by
  obtain ⟨p,_,rfl⟩:=List.mem_map.mp hx
  simp [aR5]) (by rw [List.length_map];exact aA9 (hPs _ m0) (by decide))
 refine dM8 eargs hsw fun bq h14=>?_
 have f2:bq.lookup 2=some (.dat (.int (n:Int))):=lkS h14 (by decide) d2
 have f9:bq.lookup 9=some (.dat (.lst (P.map fun p=>.lst (aA6 p)))):=lkS h14 (by decide) d9
 have f13:bq.lookup 13=some (.dat (.int (mm:Int))):=lkS h14 (by decide) d13
 have f14:bq.lookup 14=some (.dat (.bytes (((P.getD 0 []).map (aR5 n mm)).flatMap List.reverse).toArray)):=lkE h14
 clear h14 d2 d9 d13 e0 eargs
 have er:ev ab (.listRev (.idx (.var 9) (.bin .add (.var 2) (.int 1)))) false bq=some (.lst (aA6 (P.getD (n+1) []).reverse)):=by
  have ei:=bS6 (Γ:=ab) (tr:=false) (i:=n+1) (aA1 f9) (aL0 (aA1 f2) (aB7 (i:=1))) (eP8 (eG8 (cl rfl))) (bQ7 (dA7 hPl)) (by lia)
  show (ev _ _ _ _).bind _=_;rw [ei,aC1]
  show (if _ then _ else _)=_
  rw [if_pos (by rw [List.length_map];exact aA9 (hPs _ mN) (by decide)),← List.map_reverse]
 refine nx (bU0 er (aA1 f2) (aA1 f13) oN) fun br h15=>?_
 have k14:br.lookup 14=some (.dat (.bytes (((P.getD 0 []).map (aR5 n mm)).flatMap List.reverse).toArray)):=lkS h15 (by decide) f14
 have k15:br.lookup 15=some (.dat (.bytes (((P.getD (n+1) []).reverse.map (aR5 n mm)).flatten).toArray)):=lkE h15
 clear h15
 have heq:((P.getD 0 []).map (aR5 n mm)).flatMap List.reverse=((P.getD (n+1) []).reverse.map (aR5 n mm)).flatten:=by
  rw [g1]
  exact bQ6 n mm _ (hPm _ m0)
 rw [heq] at k14
 have hcmp:∀ x:Array UInt8,bG5 .eq (.bytes x) (.bytes x)=some true:=fun x=>by
  show some (x == x)=some true
  rw [beq_self_eq_true]
 have el:ev ab (.bools true (.cons (.isBytes (.var 14)) (.cons (.cmp .eq (.var 14) (.var 15)) .nil))) false br=some (.bool true):=by
  have e14:ev ab (.isBytes (.var 14)) false br=some (.bool true):=by show (ev _ (.var 14) true _).bind _=_;rw [aA1 k14];rfl
  show (ev _ (.isBytes (.var 14)) false _).bind _=_;rw [e14]
  show (ev _ (.cmp .eq (.var 14) (.var 15)) false _).bind _=_;rw [bK3 (aA1 k14) (aA1 k15) (hcmp _)];rfl
 rw [aX1 (show runN ab aK (.plain (.ret (.bools true (.cons (.isBytes (.var 14)) (.cons (.cmp .eq (.var 14) (.var 15)) .nil))))) br=some (.ret (.bool true)) from by (dsimp only [runN];rw [aF6 el]))]
 rfl
end Mine
end
section
open PySem PySem.W PyProof.Rows
set_option maxRecDepth 100000
set_option maxHeartbeats 8000000
namespace Mine
noncomputable def dK5 (K:Frag) (a c:Addr):Bool:=match K.lookup a with
 | some ⟨_,_,.func fd,_⟩=>(match fd.code with | .ref n=>n == c | _=>false)
 | _=>false
theorem cU4 {K:Frag} {a c:Addr} (h:dK5 K a c=true):∃ o fd,K.lookup a=some o∧o.data=.func fd∧fd.code=.ref c:=by
 dsimp only [dK5] at h
 revert h
 cases K.lookup a with
 | none=>exact fun h=>Bool.noConfusion h
 | some o =>
  obtain ⟨_,_,d,_⟩:=o
  cases d with
  | func fd =>
   intro h
   refine ⟨_,_,rfl,rfl,?_⟩
   revert h
   dsimp only
   cases fd.code with
   | ref n=>exact fun h=>congrArg _ (beq_iff_eq.mp h)
   | _=>exact fun h=>Bool.noConfusion h
  | _=>exact fun h=>Bool.noConfusion h
theorem eH4 {PT:Addr} {h h':Heap} {c:Addr} {ps:Array Value} (x:Ext PT h h') (t:h.TableAt c PT #[]) (t':h'.TableAt c PT ps):OldK h h':=by
 have key:∀ b o,h.get? b=some o→h'.get? b=some o∨(b=PT∧o={ cls:=.none,data:=.fields #[] }):=by
  intro b o e
  by_cases hb:b=PT
  ·right
   refine ⟨hb,?_⟩
   rw [hb,t.2] at e
   exact (Option.some.inj e).symm
  ·exact .inl (x b o e (.inr hb))
 refine ⟨fun b o e=>?_,fun b o e=>?_⟩
 ·rcases key b o e with q | ⟨rfl,rfl⟩
  ·exact .inl q
  ·exact .inr (.inl ⟨t.isCodeTable,rfl,#[],ps,rfl,by rw [t'.2,Array.empty_append]⟩)
 ·rcases key b o e with q | ⟨rfl,_⟩
  ·exact ⟨_,q⟩
  ·exact ⟨_,t'.2⟩
theorem dA2:∃ d∈recsOf Mine.hd.view_1,d.name="_platform":=by
 have h:((recsOf Mine.hd.view_1).any fun d=>d.name == ("_platform":Str))=true:=by kernel_rfl
 obtain ⟨d,hd,hn⟩:=List.any_eq_true.mp h
 exact ⟨d,hd,beq_iff_eq.mp hn⟩
theorem eJ2 {w:World} {mg mb:Str→Option Value} {h:Heap} {loose:List Str} {mean:ExcName→Option Value} (KX:(KK w.params).In h) (T:Top Mine.hd.view_1 loose mean mg mb h):∃ PT,TopX w mg h PT:=by
 refine hid fun Gz zz=>?_
 obtain ⟨d,hd,hn⟩:=dA2
 obtain ⟨a,o,fd,c,P,h1,h2,h3,h4,h5,h6⟩:=T.tab d hd
 refine zz ?_;clear zz Gz
 rw [hn,mg_of KX T.g (n:="_platform") (v:=.ref 100) (by kernel_rfl)] at h1
 cases h1
 obtain ⟨o',fd',e1,e2,e3⟩:=cU4 (K:=KK w.params) (a:=100) (c:=99) (by kernel_rfl)
 rw [KX _ _ e1] at h2
 obtain rfl:=Option.some.inj h2
 rw [e2] at h3
 cases h3
 rw [e3] at h4
 cases h4
 exact ⟨P,KX,T.g,⟨mb,T.b,T.builtins⟩,T.nolimit,T.bmain,h5,h6⟩
end Mine
theorem Mine.the_law:PySem.Challenge.rw_jc0018_01.Holds:=PySem.W.holds_law Mine.eY4 fun _=>Mine.hd (by
 k_fill
 intro w ah aa mg mb G Y fa o pm cd doc dV kV ho hd hcd hD hmg hg args vals as hpre hlay hrd hwl hlo
 have KX:=kIn_of Y
 have X:=(Ground.X G).1
 have V:=(Ground.X G).2
 refine Ground.open G ?_
 intro T B D TE TW
 obtain ⟨_,_,M⟩:=bmod_of_top T
 have TA:=at_of_top T
 have hfa:fa=207:=by
  have e:=mg_of KX T.g (n:="law") (v:=.ref 207) (by kernel_rfl)
  have e2:=hmg.symm.trans e
  cases e2
  rfl
 subst hfa
 wrow_args hpre hlay hrd hwl hlo
 clear hD hd
 clear hcd hmg
 rename_i ns hs hlay0 hLay hr1 hl2 as1 as2 l vs as3 hL ra hw r0 hI hr hlen hc2
 obtain ⟨PT,XT⟩:=Mine.eJ2 KX T
 have hl:aa.heap.get? l=some (Mine.aB2 vs 0):=by
  clear r0
  cases hw with
  | list h _ =>
   obtain ⟨o',q1,q2,n',q3⟩:=hL
   rw [h] at q1
   obtain rfl:=Option.some.inj q1
   cases q3
   exact h
 refine Mine.eH3 XT Mine.main_ok rfl hg hl hI (eV8 (eM0 hlen)) fun s' ps x t ho hb=>?_
 refine ⟨.inl ⟨.bool true,.bool true,[],rfl,?_,.bool true,?_,?_⟩,Mine.eH4 x XT.table t,ho,hb⟩
 ·intro cls;rfl
 ·refine postW_of (r:=(Challenge.rw_jc0018_01).row.toRowW) (X:=true) ?_ ?_ rfl
  ·first | rfl | wrow_shape
  ·first | rfl | wtm_val | (refine PyProof.Rows.v_eq_bool (PyProof.Rows.v_res ?_) PyProof.Rows.v_lit;rfl)
 ·intro _;exact ⟨List.nodup_nil,fun a h=>nomatch h⟩)
end
set_option maxRecDepth 100000 in
set_option maxHeartbeats 8000000 in
theorem PySem.Challenge.cw_jc0018_01_holds : PySem.Challenge.rw_jc0018_01.Holds := by
  exact Mine.the_law
