/- What the card of FnDNEqual stands on: its walk, and names laid open. -/
import Derived.Test.YtdacmcbipnnneaaDoorDnS
import Derived.Test.YtdacmcbipnnneaaDoorDnT
